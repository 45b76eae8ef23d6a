/- A buffer that is written: the walks of (*bytes.Buffer).tryGrowByReslice, Write, Len, Bytes. -/
import Derived.Test.YtjbjjphgnilhmaaGreatDoorDb
set_option linter.unusedVariables false
set_option linter.unusedSimpArgs false
namespace Go.Proofs.YtjbjjphgnilhmaaGreatDoor
open Go.RowKit

structure Sink where
  bb : Nat
  db : Nat
  cap : Nat
def bufCells (S : Sink) (n : Nat) : Array Value := #[.slice (some ⟨S.db, 0, none⟩) n S.cap, .int .i64 0, .int .i8 0]
/-- A buffer that holds l. -/
structure Holds (S : Sink) (w : World) (l : By.Bs) : Prop where
  ne : S.bb ≠ S.db
  fits : l.length ≤ S.cap
  small : S.cap ≤ 2147483647
  buf : Blk w S.bb (bufCells S l.length) 131
  data : ∃ ds : List Value, ds.length = S.cap ∧ ds.take l.length = l.map byteV ∧ Blk w S.db ds.toArray 5
theorem Holds.kept {S : Sink} {X : Nat → Prop} {w w' : World} {l : By.Bs} (h : Holds S w l) (hk : Kept X w w') (h1 : ¬ X S.bb) (h2 : ¬ X S.db) : Holds S w' l :=
  ⟨h.ne, h.fits, h.small, (hk.block _ h.buf.lt h1).trans h.buf, by
    obtain ⟨ds, a, b, c⟩ := h.data
    exact ⟨ds, a, b, (hk.block _ c.lt h2).trans c⟩⟩
theorem to_run (b off n c k : Nat) (K : Int) (hK : K = k) (hk : k ≤ c) : ∀ w, (Instr.slice 22 (.slice (some ⟨b, off, none⟩) n c) none (some (.int .i64 K)) none).run Tryz.prog w = .ok (.slice (some ⟨b, off, none⟩) k c) w := by
  subst hK
  intro w
  have g : (k : Int) ≤ c := by omega
  by_cases h : c = 0
  · subst h
    obtain rfl : k = 0 := by omega
    go_simp
  · go_simp
set_option maxRecDepth 100000 in
theorem grow_any (S : Sink) (k n : Nat) (w : World) (hb : Blk w S.bb (bufCells S n) 131) (hk : n + k ≤ S.cap) (hs : S.cap ≤ 2147483647) :
    Calls Tryz.prog 144 #[.pointer (some ⟨S.bb, 0, none⟩), .int .i64 k] w fun e w' => e = .returned (.tuple #[.int .i64 n, .bool true]) ∧ w' = w.setCell ⟨S.bb, 0, none⟩ (.slice (some ⟨S.db, 0, none⟩) (n + k : Nat) S.cap) := by
  obtain ⟨c0, f0⟩ := hb.cell (i := 0) (v := .slice (some ⟨S.db, 0, none⟩) n S.cap) rfl
  have g : (k : Int) ≤ (S.cap : Int) - n := by omega
  have hto := to_run S.db 0 n S.cap (n + k) ((n : Int) + k) (by omega) hk
  clear hb
  go_enter Tryz.func144, Tryz.ntmps144
  go_wp2_with fail
  go_ret2
  exact ⟨rfl, rfl⟩
theorem add_off (db o2 j : Nat) : (⟨db, o2, none⟩ : Addr).add j = ⟨db, o2 + j, none⟩ := by
  unfold Addr.add
  split
  · simp_all
  · rfl
set_option maxRecDepth 100000 in
set_option maxHeartbeats 1000000 in
theorem write_any (S : Sink) (l p : By.Bs) (b off k c : Nat) (w : World) (h : Holds S w l) (hp : p.length = k) (hk : 1 ≤ k) (hfit : l.length + k ≤ S.cap) (hx : BytesAt w b off p) (hb1 : b ≠ S.bb) (hb2 : b ≠ S.db) :
    Calls Tryz.prog 142 #[.pointer (some ⟨S.bb, 0, none⟩), .slice (some ⟨b, off, none⟩) k c] w fun e w' => e = .returned (.tuple #[.int .i64 k, .nilIface]) ∧ Holds S w' (l ++ p) ∧ Kept (fun i => i = S.bb ∨ i = S.db) w w' := by
  obtain ⟨n, hn⟩ : ∃ n, n = l.length := ⟨_, rfl⟩
  obtain ⟨hne, _, hsm, hbuf, ds, hd1, hd2, hd3⟩ := h
  rw [← hn] at hfit hbuf hd2
  obtain ⟨c2, f2⟩ := hbuf.cell (i := 2) (v := .int .i8 0) rfl
  obtain ⟨W1, hW1⟩ : ∃ W, W = w.setCell ⟨S.bb, 2, none⟩ (.int .i8 0) := ⟨_, rfl⟩
  have b1 : Blk W1 S.bb (bufCells S n) 131 := by rw [hW1]; exact hbuf.set 2 (.int .i8 0)
  have k1 : Kept (fun i => i = S.bb ∨ i = S.db) w W1 := by rw [hW1]; exact (Kept.refl (fun i => i = S.bb ∨ i = S.db) w).setCell ⟨S.bb, 2, none⟩ _ (.inr (.inl rfl))
  have d1 : Blk W1 S.db ds.toArray 5 := by rw [hW1]; exact (Below.heap_setCell _ _ _ S.db (by show S.db ≠ S.bb; exact Ne.symm hne)).trans hd3
  have hcall := grow_any S k n W1 b1 hfit hsm
  have HH := Lib.hid (⟨hne, hd1, hd2, hn, hp⟩ : _ ∧ _ ∧ _ ∧ _ ∧ _)
  have HW1 := Lib.hid (⟨hW1, b1, k1, d1⟩ : _ ∧ _ ∧ _ ∧ _)
  have HX := Lib.hid hx
  obtain ⟨o2, hs2, ho2⟩ := from_run S.db 0 (n + k) S.cap n (n : Int) rfl (by omega) hfit
  obtain rfl := ho2 (by omega)
  clear hne hbuf hd1 hd2 hd3 hx hW1 b1 k1 d1 hn ho2 hp
  go_enter Tryz.func142, Tryz.ntmps142
  go_wp2_with fail
  rw [← HW1.out.1]
  refine hcall.mono ?_
  rintro e w2 ⟨rfl, hw2⟩
  have b2 : Blk w2 S.bb (bufCells S (n + k)) 131 := by rw [hw2]; exact HW1.out.2.1.set 0 _
  have k2 : Kept (fun i => i = S.bb ∨ i = S.db) w w2 := by rw [hw2]; exact HW1.out.2.2.1.setCell ⟨S.bb, 0, none⟩ _ (.inr (.inl rfl))
  have d2 : Blk w2 S.db ds.toArray 5 := by rw [hw2]; exact (Below.heap_setCell _ _ _ S.db (by show S.db ≠ S.bb; exact Ne.symm HH.out.1)).trans HW1.out.2.2.2
  obtain ⟨c0, f0⟩ := b2.cell (i := 0) (v := .slice (some ⟨S.db, 0, none⟩) (n + k : Nat) S.cap) rfl
  obtain ⟨cs, hcs⟩ : ∃ cs, cs = p.map byteV := ⟨_, rfl⟩
  have hcl : cs.length = k := by rw [hcs, List.length_map]; exact HH.out.2.2.2.2
  have HK := Lib.hid (⟨b2, k2, d2, hcs, hcl⟩ : _ ∧ _ ∧ _ ∧ _ ∧ _)
  clear b2 k2 d2 hcs hcl hw2 hcall c2 f2
  go_wp2_with (with_reducible refine wpList_copy_own rfl (.tmp 29) (.tmp 30) 22 22 rfl 5 Tryz.underlying22 size5 S.db n k (S.cap - n) ⟨b, off, none⟩ k c rfl rfl ds.toArray 5 ?hg cs ?hn ?hsrc ?hfit ?h1 ?_)
  case hg => exact HK.out.2.2.1
  case hn => rw [HK.out.2.2.2.2]; exact (Nat.min_self k).symm
  case hsrc =>
    intro j v hv
    rw [HK.out.2.2.2.1, List.getElem?_map] at hv
    obtain ⟨x, hxx, rfl⟩ := Option.map_eq_some_iff.1 hv
    rw [add_off]
    exact HK.out.2.1.bytes HX.out (by rintro (h | h); exact hb1 h; exact hb2 h) j x hxx
  case hfit => have := HK.out.2.2.2.2; have := HH.out.2.1; simp; omega
  case h1 =>
    intro v hv
    rw [HK.out.2.2.2.1] at hv
    obtain ⟨x, _, rfl⟩ := List.mem_map.1 hv
    rfl
  go_ret2
  have hlen := HH.out.2.1
  have hcl := HK.out.2.2.2.2
  have hnl := HH.out.2.2.2.1
  have K3 := HK.out.2.1.setRow S.db (ds.toArray.toList.take n ++ (cs ++ ds.toArray.toList.drop (n + cs.length))).toArray (.inr (.inr rfl))
  refine ⟨?_, ⟨HH.out.1, ?_, hsm, ?_, splice ds n cs, ?_, ?_, ?_⟩, K3⟩
  · rw [hcl]; rfl
  · rw [List.length_append, HH.out.2.2.2.2]; omega
  · rw [List.length_append, HH.out.2.2.2.2, ← hnl]
    exact (setRow_other w2 S.db S.bb _ HH.out.1).trans HK.out.1
  · rw [length_splice _ _ _ (by omega)]; exact hlen
  · unfold splice
    rw [List.length_append, HH.out.2.2.2.2, ← hnl, List.map_append, ← HK.out.2.2.2.1, ← HH.out.2.2.1, ← List.append_assoc]
    exact List.take_left' (by rw [List.length_append, List.length_take, hcl]; omega)
  · have := setRow_heap w2 S.db ds.toArray (splice ds n cs).toArray 5 (0, 0) HK.out.2.2.1
    show _ = _
    simpa [splice] using this

theorem len_any (S : Sink) (l : By.Bs) (w : World) (h : Holds S w l) : Calls Tryz.prog 34 #[.pointer (some ⟨S.bb, 0, none⟩)] w fun e w' => e = .returned (.int .i64 l.length) ∧ ∃ q, w' = w.drewN q := by
  obtain ⟨n, hn⟩ : ∃ n, n = l.length := ⟨_, rfl⟩
  have hb := h.buf
  have hf := h.fits
  have hs := h.small
  rw [← hn] at hb hf ⊢
  obtain ⟨c0, f0⟩ := hb.cell (i := 0) (v := .slice (some ⟨S.db, 0, none⟩) n S.cap) rfl
  obtain ⟨c1, f1⟩ := hb.cell (i := 1) (v := .int .i64 0) rfl
  clear hb h hn
  go_enter Tryz.func34, Tryz.ntmps34
  go_wp2_with fail
  go_quiet (fail)
  go_wp2_with fail
  go_ret
  exact ⟨rfl, _, rfl⟩
theorem bytes_any (S : Sink) (l : By.Bs) (w : World) (h : Holds S w l) : Calls Tryz.prog 35 #[.pointer (some ⟨S.bb, 0, none⟩)] w fun e w' => e = .returned (.slice (some ⟨S.db, 0, none⟩) l.length S.cap) ∧ ∃ q, w' = w.drewN q := by
  obtain ⟨n, hn⟩ : ∃ n, n = l.length := ⟨_, rfl⟩
  have hb := h.buf
  have hf := h.fits
  have hs := h.small
  rw [← hn] at hb hf ⊢
  obtain ⟨c0, f0⟩ := hb.cell (i := 0) (v := .slice (some ⟨S.db, 0, none⟩) n S.cap) rfl
  obtain ⟨c1, f1⟩ := hb.cell (i := 1) (v := .int .i64 0) rfl
  obtain ⟨o2, hs2, ho2⟩ := from_run S.db 0 n S.cap 0 (0 : Int) rfl (by omega) hf
  have ho : o2 = 0 := by
    by_cases hc : S.cap = 0
    · have := hs2 w
      rw [hc] at this
      obtain rfl : n = 0 := by omega
      have e2 : (Instr.slice 22 (.slice (some ⟨S.db, 0, none⟩) 0 0) (some (.int .i64 0)) none none).run Tryz.prog w = .ok (.slice (some ⟨S.db, 0, none⟩) 0 0) w := by go_simp
      simp [e2] at this
      exact this.symm
    · exact ho2 hc
  subst ho
  clear hb h ho2 hn
  go_enter Tryz.func35, Tryz.ntmps35
  go_wp2_with fail
  go_quiet (fail)
  go_wp2_with fail
  go_ret
  exact ⟨rfl, _, rfl⟩
theorem newBuf (db cap : Nat) (w : World) (hd : Blk w db (List.replicate cap (Value.int .u8 0)).toArray 5) (hc : cap ≤ 2147483647) :
    Calls Tryz.prog 29 #[.slice (some ⟨db, 0, none⟩) 0 cap] w fun e w' => e = .returned (.pointer (some ⟨w.heap.size, 0, none⟩)) ∧ Holds ⟨w.heap.size, db, cap⟩ w' [] ∧ Below w.heap.size w w' := by
  have HD := Lib.hid hd
  clear hd
  go_enter Tryz.func29, Tryz.ntmps29
  go_wp2_with fail
  go_ret
  have hl := HD.out.lt
  exact ⟨rfl, ⟨by show w.heap.size ≠ db; omega, Nat.zero_le _, hc, Blk.new w _ _, _, List.length_replicate, rfl, HD.out.alloc _⟩, (Below.refl _ _).alloc (Nat.le_refl _) _⟩
end Go.Proofs.YtjbjjphgnilhmaaGreatDoor
