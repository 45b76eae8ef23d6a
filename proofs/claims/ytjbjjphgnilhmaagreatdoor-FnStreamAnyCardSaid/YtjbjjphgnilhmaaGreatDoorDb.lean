/- The walks of PutUint32 and PutUint64. -/
import Derived.Test.YtjbjjphgnilhmaaGreatDoorBz
set_option linter.unusedVariables false
set_option linter.unusedSimpArgs false
namespace Go.Proofs.YtjbjjphgnilhmaaGreatDoor
open Go.RowKit

def bo (le : Bool) : Value := .int .u8 (if le then 0 else 1)
theorem set4 (ws : List Value) (off : Nat) (a b c d : Value) (h : off + 4 ≤ ws.length) :
    (((ws.toArray.setIfInBounds off a).setIfInBounds (off + 1) b).setIfInBounds (off + 2) c).setIfInBounds (off + 3) d = (splice ws off [a, b, c, d]).toArray := by
  obtain ⟨A, B, rfl, hA⟩ : ∃ A B, ws = A ++ B ∧ A.length = off := ⟨ws.take off, ws.drop off, (List.take_append_drop off ws).symm, by rw [List.length_take]; omega⟩
  subst hA
  have h : 4 ≤ B.length := by rw [List.length_append] at h; omega
  match B, h with
  | y0 :: y1 :: y2 :: y3 :: r, _ =>
    simp [splice, List.set_append]
theorem byteV_of (x : Nat) (h : x < 256) : byteV x.toUInt8 = .int .u8 (x : Nat) := by
  unfold byteV
  rw [show x.toUInt8.toNat = x from by simp [Nat.toUInt8]; omega]
theorem spell_le4 (v : Nat) (h : v < 4294967296) : (By.spell true 4 v).map byteV = [.int .u8 ((v : Int) % 256), .int .u8 ((v : Int) / 256 % 256), .int .u8 ((v : Int) / 65536 % 256), .int .u8 ((v : Int) / 16777216 % 256)] := by
  simp only [By.spell, if_true, Lib.leBytes, List.map_cons, List.map_nil]
  rw [byteV_of _ (by omega), byteV_of _ (by omega), byteV_of _ (by omega), byteV_of _ (by omega)]
  simp only [List.cons.injEq, Value.int.injEq, true_and, and_true]
  refine ⟨?_, ?_, ?_, ?_⟩ <;> omega
theorem spell_be4 (v : Nat) (h : v < 4294967296) : (By.spell false 4 v).map byteV = [.int .u8 ((v : Int) / 16777216 % 256), .int .u8 ((v : Int) / 65536 % 256), .int .u8 ((v : Int) / 256 % 256), .int .u8 ((v : Int) % 256)] := by
  have e := spell_le4 v h
  simp only [By.spell, if_true, Bool.false_eq_true, if_false, Lib.beBytes, List.map_reverse] at e ⊢
  rw [e]; rfl
/-- The work block's cells, written at a place. -/
def Put (w w' : World) (b off : Nat) (ws : List Value) (l : By.Bs) : Prop := Blk w' b (splice ws off (l.map byteV)).toArray 5 ∧ Kept (fun k => k = b) w w'

set_option maxRecDepth 100000 in
set_option maxHeartbeats 1000000 in
theorem p32_true (b off n c v : Nat) (ws : List Value) (w : World) (hW : Blk w b ws.toArray 5) (hoff : off + 4 ≤ ws.length) (hn : 4 ≤ n) (hv : v < 4294967296) :
    Calls Tryz.prog 89 #[.int .u8 0, .slice (some ⟨b, off, none⟩) n c, .int .u32 v] w fun e w' => e = .returned (.tuple #[]) ∧ Put w w' b off ws (By.spell true 4 v) := by
  have cg : ∀ i, i < 4 → ∃ x, ws.toArray[off + i]? = some x := fun i hi => ⟨_, List.getElem?_toArray .. ▸ List.getElem?_eq_getElem (by omega : off + i < ws.length)⟩
  obtain ⟨x0, h0⟩ := cg 0 (by omega)
  obtain ⟨x1, h1⟩ := cg 1 (by omega)
  obtain ⟨x2, h2⟩ := cg 2 (by omega)
  obtain ⟨x3, h3⟩ := cg 3 (by omega)
  rw [Nat.add_zero] at h0
  obtain ⟨c0, f0⟩ := hW.cell h0
  obtain ⟨c1, f1⟩ := hW.cell h1
  obtain ⟨c2, f2⟩ := hW.cell h2
  obtain ⟨c3, f3⟩ := hW.cell h3
  have g0 : 0 < n := by omega
  have g1 : (1 : Int) < (n : Int) := by omega
  have g2 : (2 : Int) < (n : Int) := by omega
  have g3 : (3 : Int) < (n : Int) := by omega
  have HW := Lib.hid (⟨hW, hoff, hv⟩ : _ ∧ _ ∧ _)
  clear hW cg h0 h1 h2 h3 hoff hv
  go_enter Tryz.func89, Tryz.ntmps89
  go_wp2_with fail
  refine bodyPost_ret (results_none Tryz.results89 _ _ _) rfl ?_
  refine ⟨rfl, ?_⟩
  unfold Put
  rw [spell_le4 v HW.out.2.2, ← set4 ws off _ _ _ _ HW.out.2.1]
  exact ⟨(((HW.out.1.set off _).set (off + 1) _).set (off + 2) _).set (off + 3) _, (((((Kept.refl (fun k => k = b) w).setCell ⟨b, off, none⟩ _ (.inr rfl)).setCell ⟨b, off + 1, none⟩ _ (.inr rfl)).setCell ⟨b, off + 2, none⟩ _ (.inr rfl)).setCell ⟨b, off + 3, none⟩ _ (.inr rfl))⟩

set_option maxRecDepth 100000 in
set_option maxHeartbeats 1000000 in
theorem p32_false (b off n c v : Nat) (ws : List Value) (w : World) (hW : Blk w b ws.toArray 5) (hoff : off + 4 ≤ ws.length) (hn : 4 ≤ n) (hv : v < 4294967296) :
    Calls Tryz.prog 89 #[.int .u8 1, .slice (some ⟨b, off, none⟩) n c, .int .u32 v] w fun e w' => e = .returned (.tuple #[]) ∧ Put w w' b off ws (By.spell false 4 v) := by
  have cg : ∀ i, i < 4 → ∃ x, ws.toArray[off + i]? = some x := fun i hi => ⟨_, List.getElem?_toArray .. ▸ List.getElem?_eq_getElem (by omega : off + i < ws.length)⟩
  obtain ⟨x0, h0⟩ := cg 0 (by omega)
  obtain ⟨x1, h1⟩ := cg 1 (by omega)
  obtain ⟨x2, h2⟩ := cg 2 (by omega)
  obtain ⟨x3, h3⟩ := cg 3 (by omega)
  rw [Nat.add_zero] at h0
  obtain ⟨c0, f0⟩ := hW.cell h0
  obtain ⟨c1, f1⟩ := hW.cell h1
  obtain ⟨c2, f2⟩ := hW.cell h2
  obtain ⟨c3, f3⟩ := hW.cell h3
  have g0 : 0 < n := by omega
  have g1 : (1 : Int) < (n : Int) := by omega
  have g2 : (2 : Int) < (n : Int) := by omega
  have g3 : (3 : Int) < (n : Int) := by omega
  have HW := Lib.hid (⟨hW, hoff, hv⟩ : _ ∧ _ ∧ _)
  clear hW cg h0 h1 h2 h3 hoff hv
  go_enter Tryz.func89, Tryz.ntmps89
  go_wp2_with fail
  refine bodyPost_end (results_none Tryz.results89 _ _ _) rfl ?_
  refine ⟨rfl, ?_⟩
  unfold Put
  rw [spell_be4 v HW.out.2.2, ← set4 ws off _ _ _ _ HW.out.2.1]
  exact ⟨(((HW.out.1.set off _).set (off + 1) _).set (off + 2) _).set (off + 3) _, (((((Kept.refl (fun k => k = b) w).setCell ⟨b, off, none⟩ _ (.inr rfl)).setCell ⟨b, off + 1, none⟩ _ (.inr rfl)).setCell ⟨b, off + 2, none⟩ _ (.inr rfl)).setCell ⟨b, off + 3, none⟩ _ (.inr rfl))⟩

theorem p32_any (le : Bool) (b off n c v : Nat) (ws : List Value) (w : World) (hW : Blk w b ws.toArray 5) (hoff : off + 4 ≤ ws.length) (hn : 4 ≤ n) (hv : v < 4294967296) :
    Calls Tryz.prog 89 #[bo le, .slice (some ⟨b, off, none⟩) n c, .int .u32 v] w fun e w' => e = .returned (.tuple #[]) ∧ Put w w' b off ws (By.spell le 4 v) := by
  cases le
  · exact p32_false b off n c v ws w hW hoff hn hv
  · exact p32_true b off n c v ws w hW hoff hn hv
theorem splice_splice {α : Type} (L : List α) (off : Nat) (a b : List α) (h : off + a.length + b.length ≤ L.length) : splice (splice L off a) (off + a.length) b = splice L off (a ++ b) := by
  obtain ⟨A, B, rfl, hA⟩ : ∃ A B, L = A ++ B ∧ A.length = off := ⟨L.take off, L.drop off, (List.take_append_drop off L).symm, by rw [List.length_take]; omega⟩
  subst hA
  unfold splice
  rw [show (A ++ B).take A.length = A from by simp, ← List.append_assoc A a, show ((A ++ a) ++ List.drop (A.length + a.length) (A ++ B)).take (A.length + a.length) = A ++ a from by rw [show List.drop (A.length + a.length) (A ++ B) = List.drop a.length B from by rw [List.drop_length_add_append], ← List.length_append, List.take_left]]
  rw [show List.drop (A.length + a.length + b.length) (A ++ a ++ List.drop (A.length + a.length) (A ++ B)) = List.drop (A.length + (a ++ b).length) (A ++ B) from by
    rw [← List.length_append, List.drop_length_add_append, List.drop_drop, List.length_append, List.length_append, Nat.add_assoc]]
  simp only [List.append_assoc]
theorem spell_split (le : Bool) (v : Nat) (h : v < 18446744073709551616) : By.spell le 8 v = if le then By.spell true 4 (v % 4294967296) ++ By.spell true 4 (v / 4294967296) else By.spell false 4 (v / 4294967296) ++ By.spell false 4 (v % 4294967296) := by
  have e : Lib.leBytes 8 v = Lib.leBytes 4 (v % 4294967296) ++ Lib.leBytes 4 (v / 4294967296) := by
    simp only [Lib.leBytes, List.cons_append, List.nil_append, List.cons.injEq, true_and, and_true]
    refine ⟨?_, ?_, ?_, ?_, ?_, ?_, ?_, ?_⟩ <;> congr 1 <;> omega
  cases le
  · simp only [By.spell, Bool.false_eq_true, if_false, Lib.beBytes]
    rw [e, List.reverse_append]
  · simp only [By.spell, if_true]; exact e
theorem Put.two {w w1 w2 : World} {b off : Nat} {ws : List Value} {l l' : By.Bs} (h1 : Put w w1 b off ws l) (h2 : Put w1 w2 b (off + l.length) (splice ws off (l.map byteV)) l') (hn : off + l.length + l'.length ≤ ws.length) : Put w w2 b off ws (l ++ l') := by
  refine ⟨?_, h1.2.trans h2.2 fun _ _ h => h⟩
  have e := splice_splice ws off (l.map byteV) (l'.map byteV) (by simp; omega)
  rw [List.length_map] at e
  have h := h2.1
  rw [e, ← List.map_append] at h
  exact h

set_option maxRecDepth 100000 in
set_option maxHeartbeats 1000000 in
theorem p64_true (b off n c v : Nat) (ws : List Value) (w : World) (hW : Blk w b ws.toArray 5) (hoff : off + 8 ≤ ws.length) (hn : 8 ≤ n) (hc : n ≤ c) (hv : v < 18446744073709551616) :
    Calls Tryz.prog 90 #[.int .u8 0, .slice (some ⟨b, off, none⟩) n c, .int .u64 v] w fun e w' => e = .returned (.tuple #[]) ∧ Put w w' b off ws (By.spell true 8 v) := by
  obtain ⟨x7, h7⟩ : ∃ x, ws.toArray[off + 7]? = some x := ⟨_, List.getElem?_toArray .. ▸ List.getElem?_eq_getElem (by omega : off + 7 < ws.length)⟩
  obtain ⟨c7, f7⟩ := hW.cell h7
  have g7 : (7 : Int) < (n : Int) := by omega
  have hcall := p32_any true b off n c (v % 4294967296) ws w hW (by omega) (by omega) (by omega)
  have hcall2 := fun (w1 : World) (h : Put w w1 b off ws (By.spell true 4 (v % 4294967296))) => p32_any true b (off + 4) (n - 4) (c - 4) (v / 4294967296) _ w1 h.1 (by rw [length_splice _ _ _ (by rw [List.length_map, By.spell_length]; omega)]; omega) (by omega) (by omega)
  obtain ⟨o2, hs2, ho2⟩ := from_run b off n c 4 (4 : Int) rfl (by omega) hc
  obtain rfl := ho2 (by omega)
  have hlo : (v : Int) % 4294967296 = ((v % 4294967296 : Nat) : Int) := by omega
  have hhi : (v : Int) / 4294967296 % 4294967296 = ((v / 4294967296 : Nat) : Int) := by omega
  have HW := Lib.hid (⟨hW, hoff, hv⟩ : _ ∧ _ ∧ _)
  clear hW hoff hv h7 ho2
  simp only [bo, if_true, Bool.false_eq_true, if_false] at hcall hcall2
  rw [← hlo] at hcall
  simp only [← hhi] at hcall2
  clear hlo hhi
  go_enter Tryz.func90, Tryz.ntmps90
  go_wp2_with fail
  refine hcall.mono ?_
  rintro e w1 ⟨rfl, hp⟩
  have hc2 := hcall2 w1 hp
  have HP := Lib.hid hp
  clear hp hcall hcall2
  go_wp2_with fail
  refine hc2.mono ?_
  rintro e w2 ⟨rfl, hp2⟩
  have HP2 := Lib.hid hp2
  clear hp2 hc2
  go_wp2_with fail
  refine bodyPost_ret (results_none Tryz.results90 _ _ _) rfl ?_
  refine ⟨rfl, ?_⟩
  have hl4 : (By.spell true 4 (v % 4294967296)).length = 4 := By.spell_length _ _ _
  rw [spell_split _ _ HW.out.2.2]
  rw [if_pos rfl]
  exact HP.out.two (by rw [hl4]; exact HP2.out) (by rw [hl4, By.spell_length]; have := HW.out.2.1; omega)

set_option maxRecDepth 100000 in
set_option maxHeartbeats 1000000 in
theorem p64_false (b off n c v : Nat) (ws : List Value) (w : World) (hW : Blk w b ws.toArray 5) (hoff : off + 8 ≤ ws.length) (hn : 8 ≤ n) (hc : n ≤ c) (hv : v < 18446744073709551616) :
    Calls Tryz.prog 90 #[.int .u8 1, .slice (some ⟨b, off, none⟩) n c, .int .u64 v] w fun e w' => e = .returned (.tuple #[]) ∧ Put w w' b off ws (By.spell false 8 v) := by
  obtain ⟨x7, h7⟩ : ∃ x, ws.toArray[off + 7]? = some x := ⟨_, List.getElem?_toArray .. ▸ List.getElem?_eq_getElem (by omega : off + 7 < ws.length)⟩
  obtain ⟨c7, f7⟩ := hW.cell h7
  have g7 : (7 : Int) < (n : Int) := by omega
  have hcall := p32_any false b off n c (v / 4294967296) ws w hW (by omega) (by omega) (by omega)
  have hcall2 := fun (w1 : World) (h : Put w w1 b off ws (By.spell false 4 (v / 4294967296))) => p32_any false b (off + 4) (n - 4) (c - 4) (v % 4294967296) _ w1 h.1 (by rw [length_splice _ _ _ (by rw [List.length_map, By.spell_length]; omega)]; omega) (by omega) (by omega)
  obtain ⟨o2, hs2, ho2⟩ := from_run b off n c 4 (4 : Int) rfl (by omega) hc
  obtain rfl := ho2 (by omega)
  have hlo : (v : Int) % 4294967296 = ((v % 4294967296 : Nat) : Int) := by omega
  have hhi : (v : Int) / 4294967296 % 4294967296 = ((v / 4294967296 : Nat) : Int) := by omega
  have HW := Lib.hid (⟨hW, hoff, hv⟩ : _ ∧ _ ∧ _)
  clear hW hoff hv h7 ho2
  simp only [bo, if_true, Bool.false_eq_true, if_false] at hcall hcall2
  rw [← hhi] at hcall
  simp only [← hlo] at hcall2
  clear hlo hhi
  go_enter Tryz.func90, Tryz.ntmps90
  go_wp2_with fail
  refine hcall.mono ?_
  rintro e w1 ⟨rfl, hp⟩
  have hc2 := hcall2 w1 hp
  have HP := Lib.hid hp
  clear hp hcall hcall2
  go_wp2_with fail
  refine hc2.mono ?_
  rintro e w2 ⟨rfl, hp2⟩
  have HP2 := Lib.hid hp2
  clear hp2 hc2
  go_wp2_with fail
  refine bodyPost_end (results_none Tryz.results90 _ _ _) rfl ?_
  refine ⟨rfl, ?_⟩
  have hl4 : (By.spell false 4 (v / 4294967296)).length = 4 := By.spell_length _ _ _
  rw [spell_split _ _ HW.out.2.2]
  rw [if_neg (by decide)]
  exact HP.out.two (by rw [hl4]; exact HP2.out) (by rw [hl4, By.spell_length]; have := HW.out.2.1; omega)

theorem p64_any (le : Bool) (b off n c v : Nat) (ws : List Value) (w : World) (hW : Blk w b ws.toArray 5) (hoff : off + 8 ≤ ws.length) (hn : 8 ≤ n) (hc : n ≤ c) (hv : v < 18446744073709551616) :
    Calls Tryz.prog 90 #[bo le, .slice (some ⟨b, off, none⟩) n c, .int .u64 v] w fun e w' => e = .returned (.tuple #[]) ∧ Put w w' b off ws (By.spell le 8 v) := by
  cases le
  · exact p64_false b off n c v ws w hW hoff hn hc hv
  · exact p64_true b off n c v ws w hW hoff hn hc hv

end Go.Proofs.YtjbjjphgnilhmaaGreatDoor
