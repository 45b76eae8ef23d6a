/- The first call of (*Encoder).Encode: the work block is made. -/
import Derived.Test.YtjbjjphgnilhmaaGreatDoorDj
set_option linter.unusedVariables false
set_option linter.unusedSimpArgs false
namespace Go.Proofs.YtjbjjphgnilhmaaGreatDoor
open Go.RowKit

/-- An encoder that has no work block yet. -/
structure Enc0 (E : Enr) (w : World) (l : By.Bs) : Prop where
  en : Blk w E.en #[.slice none 0 0, .iface 88 (.pointer (some ⟨E.S.bb, 0, none⟩)), bo E.le] 176
  hold : Holds E.S w l
  apart : E.en ≠ E.S.bb ∧ E.en ≠ E.S.db
  base : E.B ≤ E.en ∧ E.B ≤ E.S.bb ∧ E.B ≤ E.S.db
/-- The same place, with a work block. -/
def Enr.at (E : Enr) (b : Nat) : Enr := { E with wb := b }
def z16 : List Value := List.replicate 16 (.int .u8 0)
abbrev W16 (w : World) : World := w.alloc (.cells #[.int .u8 0, .int .u8 0, .int .u8 0, .int .u8 0, .int .u8 0, .int .u8 0, .int .u8 0, .int .u8 0, .int .u8 0, .int .u8 0, .int .u8 0, .int .u8 0, .int .u8 0, .int .u8 0, .int .u8 0, .int .u8 0] 5)
theorem make16 (w : World) : (Instr.makeSlice 22 (.int .i64 16) (.int .i64 16)).run Tryz.prog w = .ok (.slice (some ⟨w.heap.size, 0, none⟩) 16 16) (W16 w) := by kernel_rfl
theorem first_byte0 (E : Enr) (l : By.Bs) (w : World) (x : UInt8) (h : Enc0 E w l) (hfit : l.length + 1 ≤ E.S.cap) :
    Calls Tryz.prog 142 #[.pointer (some ⟨E.S.bb, 0, none⟩), .slice (some ⟨w.heap.size, 0, none⟩) 1 1] (w.alloc (.cells #[byteV x] 5)) fun e w' => e = .returned (.tuple #[.int .i64 1, .nilIface]) ∧ Enc0 E w' (l ++ [x]) ∧ Below E.B w w' := by
  have hb : Below w.heap.size w (w.alloc (.cells #[byteV x] 5)) := (Below.refl _ _).alloc (Nat.le_refl _) _
  have k1 := Kept.of_below hb (fun _ => False)
  have n1 : w.heap.size ≠ E.S.bb := by have := h.hold.buf.lt; omega
  have n2 : w.heap.size ≠ E.S.db := by obtain ⟨_, _, _, hd⟩ := h.hold.data; have := hd.lt; omega
  have hbl : E.B ≤ w.heap.size := by have := h.base.1; have := h.en.lt; omega
  exact (write_any E.S l [x] w.heap.size 0 1 1 _ (h.hold.kept k1 id id) rfl (Nat.le_refl _) hfit (byte_at w x) n1 n2).mono fun e w' he =>
    ⟨he.1, ⟨(he.2.2.block _ (h.en.below hb h.en.lt).lt (fun e => e.elim h.apart.1 h.apart.2)).trans (h.en.below hb h.en.lt), he.2.1, h.apart, h.base⟩,
      (hb.mono hbl).trans (he.2.2.to_below (fun k hk => by rcases hk with rfl | rfl; exact h.base.2.1; exact h.base.2.2) (by have := hb.size; omega))⟩
/-- The work block, made. -/
theorem made_work (E : Enr) (l : By.Bs) (w : World) (h : Enc0 E w l) : EncW (E.at w.heap.size) ((W16 w).setCell ⟨E.en, 0, none⟩ (.slice (some ⟨w.heap.size, 0, none⟩) 16 16)) l z16 ∧ Below E.B w ((W16 w).setCell ⟨E.en, 0, none⟩ (.slice (some ⟨w.heap.size, 0, none⟩) 16 16)) := by
  have hb : Below w.heap.size w (W16 w) := (Below.refl _ _).alloc (Nat.le_refl _) _
  have hbl : E.B ≤ w.heap.size := by have := h.base.1; have := h.en.lt; omega
  have e1 := h.en.below hb h.en.lt
  have ne : w.heap.size ≠ E.en := by have := h.en.lt; omega
  have kk : Kept (fun b => b = E.en) w ((W16 w).setCell ⟨E.en, 0, none⟩ (.slice (some ⟨w.heap.size, 0, none⟩) 16 16)) := (Kept.of_below hb _).setCell ⟨E.en, 0, none⟩ _ (.inr rfl)
  refine ⟨⟨e1.set 0 _, (Below.heap_setCell _ _ _ _ ne).trans (Blk.new w _ _), rfl, h.hold.kept kk (fun e => h.apart.1 e.symm) (fun e => h.apart.2 e.symm), ⟨h.apart.1, h.apart.2, ?_, ?_, ne⟩, h.base.1, h.base.2.1, h.base.2.2, hbl⟩, kk.to_below (fun k hk => by rw [hk]; exact h.base.1) hbl⟩
  · show w.heap.size ≠ E.S.bb; have := h.hold.buf.lt; omega
  · show w.heap.size ≠ E.S.db; obtain ⟨_, _, _, hd⟩ := h.hold.data; have := hd.lt; omega

set_option maxRecDepth 100000 in
set_option maxHeartbeats 2000000 in
theorem e0_ln_true (E : Enr) (g : Addr) (n cap : Nat) (x : By.Bs) (l : By.Bs) (w : World) (hle : E.le = true) (h : Enc0 E w l) (hfit0 : l.length + 1 ≤ E.S.cap)
    (hw : ∀ (b : Nat) (l' : By.Bs) (ws' : List Value) (w' : World), EncW (E.at b) w' l' ws' → Below E.B w w' → l'.length = l.length + 1 → Calls Tryz.prog 77 #[.pointer (some ⟨E.en, 0, none⟩), .slice (some g) n cap, .int .i64 0] w' (Wrote (E.at b) l' x w')) :
    Calls Tryz.prog 50 #[.pointer (some ⟨E.en, 0, none⟩), .iface 72 (.slice (some g) n cap), .int .i64 0] w fun e w' => ∃ b, Wrote (E.at b) l (ob true :: x) w e w' := by
  obtain ⟨c1, _⟩ := h.en.cell (i := 1) (v := .iface 88 (.pointer (some ⟨E.S.bb, 0, none⟩))) rfl
  obtain ⟨c2, _⟩ := h.en.cell (i := 2) (v := bo E.le) rfl
  have c2' : w.cell? ⟨E.en, 2, none⟩ = some (.int .u8 0) := by rw [c2, hle]; rfl
  have d1 := cell_alloc c1 (.cells #[.int .u8 1] 5)
  have hcall := first_byte0 E l w (ob true) h hfit0
  have hbv : byteV (ob true) = .int .u8 1 := rfl
  rw [hbv] at hcall
  have HW := Lib.hid hw
  have hn1 := nil_write
  have hn2 := method_write
  have hm := make16
  clear h hle c2 hw
  go_enter Tryz.func50, Tryz.ntmps50
  go_wp2_with fail
  refine hcall.mono ?_
  rintro e w1 ⟨rfl, hE, hb⟩
  obtain ⟨e0, _⟩ := hE.en.cell (i := 0) (v := .slice none 0 0) rfl
  have f0 := ((hE.en.alloc (.cells #[.int .u8 0, .int .u8 0, .int .u8 0, .int .u8 0, .int .u8 0, .int .u8 0, .int .u8 0, .int .u8 0, .int .u8 0, .int .u8 0, .int .u8 0, .int .u8 0, .int .u8 0, .int .u8 0, .int .u8 0, .int .u8 0] 5)).cell (i := 0) (v := .slice none 0 0) rfl)
  obtain ⟨f0, f1⟩ := f0
  have hmade := made_work E _ w1 hE
  have hcall2 := HW.out w1.heap.size (l ++ [ob true]) z16 _ hmade.1 (hb.trans hmade.2) (by simp)
  have H1 := Lib.hid (hb.trans hmade.2)
  clear hcall c1 c2' d1 hb hE hbv hmade
  go_wp2_with fail
  refine hcall2.mono ?_
  rintro e w2 ⟨rfl, hE2, hb2⟩
  have H2 := Lib.hid (⟨hE2, H1.out.trans hb2⟩ : _ ∧ _)
  clear hcall2 hE2 hb2 e0 f0 f1
  go_wp2_with fail
  go_ret
  obtain ⟨ws', h5⟩ := H2.out.1
  exact ⟨w1.heap.size, rfl, ⟨ws', by rw [List.append_cons]; exact h5⟩, H2.out.2⟩

set_option maxRecDepth 100000 in
set_option maxHeartbeats 2000000 in
theorem e0_ln_false (E : Enr) (g : Addr) (n cap : Nat) (x : By.Bs) (l : By.Bs) (w : World) (hle : E.le = false) (h : Enc0 E w l) (hfit0 : l.length + 1 ≤ E.S.cap)
    (hw : ∀ (b : Nat) (l' : By.Bs) (ws' : List Value) (w' : World), EncW (E.at b) w' l' ws' → Below E.B w w' → l'.length = l.length + 1 → Calls Tryz.prog 77 #[.pointer (some ⟨E.en, 0, none⟩), .slice (some g) n cap, .int .i64 0] w' (Wrote (E.at b) l' x w')) :
    Calls Tryz.prog 50 #[.pointer (some ⟨E.en, 0, none⟩), .iface 72 (.slice (some g) n cap), .int .i64 0] w fun e w' => ∃ b, Wrote (E.at b) l (ob false :: x) w e w' := by
  obtain ⟨c1, _⟩ := h.en.cell (i := 1) (v := .iface 88 (.pointer (some ⟨E.S.bb, 0, none⟩))) rfl
  obtain ⟨c2, _⟩ := h.en.cell (i := 2) (v := bo E.le) rfl
  have c2' : w.cell? ⟨E.en, 2, none⟩ = some (.int .u8 1) := by rw [c2, hle]; rfl
  have d1 := cell_alloc c1 (.cells #[.int .u8 0] 5)
  have hcall := first_byte0 E l w (ob false) h hfit0
  have hbv : byteV (ob false) = .int .u8 0 := rfl
  rw [hbv] at hcall
  have HW := Lib.hid hw
  have hn1 := nil_write
  have hn2 := method_write
  have hm := make16
  clear h hle c2 hw
  go_enter Tryz.func50, Tryz.ntmps50
  go_wp2_with fail
  refine hcall.mono ?_
  rintro e w1 ⟨rfl, hE, hb⟩
  obtain ⟨e0, _⟩ := hE.en.cell (i := 0) (v := .slice none 0 0) rfl
  have f0 := ((hE.en.alloc (.cells #[.int .u8 0, .int .u8 0, .int .u8 0, .int .u8 0, .int .u8 0, .int .u8 0, .int .u8 0, .int .u8 0, .int .u8 0, .int .u8 0, .int .u8 0, .int .u8 0, .int .u8 0, .int .u8 0, .int .u8 0, .int .u8 0] 5)).cell (i := 0) (v := .slice none 0 0) rfl)
  obtain ⟨f0, f1⟩ := f0
  have hmade := made_work E _ w1 hE
  have hcall2 := HW.out w1.heap.size (l ++ [ob false]) z16 _ hmade.1 (hb.trans hmade.2) (by simp)
  have H1 := Lib.hid (hb.trans hmade.2)
  clear hcall c1 c2' d1 hb hE hbv hmade
  go_wp2_with fail
  refine hcall2.mono ?_
  rintro e w2 ⟨rfl, hE2, hb2⟩
  have H2 := Lib.hid (⟨hE2, H1.out.trans hb2⟩ : _ ∧ _)
  clear hcall2 hE2 hb2 e0 f0 f1
  go_wp2_with fail
  go_ret
  obtain ⟨ws', h5⟩ := H2.out.1
  exact ⟨w1.heap.size, rfl, ⟨ws', by rw [List.append_cons]; exact h5⟩, H2.out.2⟩

set_option maxRecDepth 100000 in
set_option maxHeartbeats 2000000 in
theorem e0_pg_true (E : Enr) (g : Addr) (n cap : Nat) (x : By.Bs) (l : By.Bs) (w : World) (hle : E.le = true) (h : Enc0 E w l) (hfit0 : l.length + 1 ≤ E.S.cap)
    (hw : ∀ (b : Nat) (l' : By.Bs) (ws' : List Value) (w' : World), EncW (E.at b) w' l' ws' → Below E.B w w' → l'.length = l.length + 1 → Calls Tryz.prog 79 #[.pointer (some ⟨E.en, 0, none⟩), .slice (some g) n cap, .int .i64 0] w' (Wrote (E.at b) l' x w')) :
    Calls Tryz.prog 50 #[.pointer (some ⟨E.en, 0, none⟩), .iface 75 (.slice (some g) n cap), .int .i64 0] w fun e w' => ∃ b, Wrote (E.at b) l (ob true :: x) w e w' := by
  obtain ⟨c1, _⟩ := h.en.cell (i := 1) (v := .iface 88 (.pointer (some ⟨E.S.bb, 0, none⟩))) rfl
  obtain ⟨c2, _⟩ := h.en.cell (i := 2) (v := bo E.le) rfl
  have c2' : w.cell? ⟨E.en, 2, none⟩ = some (.int .u8 0) := by rw [c2, hle]; rfl
  have d1 := cell_alloc c1 (.cells #[.int .u8 1] 5)
  have hcall := first_byte0 E l w (ob true) h hfit0
  have hbv : byteV (ob true) = .int .u8 1 := rfl
  rw [hbv] at hcall
  have HW := Lib.hid hw
  have hn1 := nil_write
  have hn2 := method_write
  have hm := make16
  clear h hle c2 hw
  go_enter Tryz.func50, Tryz.ntmps50
  go_wp2_with fail
  refine hcall.mono ?_
  rintro e w1 ⟨rfl, hE, hb⟩
  obtain ⟨e0, _⟩ := hE.en.cell (i := 0) (v := .slice none 0 0) rfl
  have f0 := ((hE.en.alloc (.cells #[.int .u8 0, .int .u8 0, .int .u8 0, .int .u8 0, .int .u8 0, .int .u8 0, .int .u8 0, .int .u8 0, .int .u8 0, .int .u8 0, .int .u8 0, .int .u8 0, .int .u8 0, .int .u8 0, .int .u8 0, .int .u8 0] 5)).cell (i := 0) (v := .slice none 0 0) rfl)
  obtain ⟨f0, f1⟩ := f0
  have hmade := made_work E _ w1 hE
  have hcall2 := HW.out w1.heap.size (l ++ [ob true]) z16 _ hmade.1 (hb.trans hmade.2) (by simp)
  have H1 := Lib.hid (hb.trans hmade.2)
  clear hcall c1 c2' d1 hb hE hbv hmade
  go_wp2_with fail
  refine hcall2.mono ?_
  rintro e w2 ⟨rfl, hE2, hb2⟩
  have H2 := Lib.hid (⟨hE2, H1.out.trans hb2⟩ : _ ∧ _)
  clear hcall2 hE2 hb2 e0 f0 f1
  go_wp2_with fail
  go_ret
  obtain ⟨ws', h5⟩ := H2.out.1
  exact ⟨w1.heap.size, rfl, ⟨ws', by rw [List.append_cons]; exact h5⟩, H2.out.2⟩

set_option maxRecDepth 100000 in
set_option maxHeartbeats 2000000 in
theorem e0_pg_false (E : Enr) (g : Addr) (n cap : Nat) (x : By.Bs) (l : By.Bs) (w : World) (hle : E.le = false) (h : Enc0 E w l) (hfit0 : l.length + 1 ≤ E.S.cap)
    (hw : ∀ (b : Nat) (l' : By.Bs) (ws' : List Value) (w' : World), EncW (E.at b) w' l' ws' → Below E.B w w' → l'.length = l.length + 1 → Calls Tryz.prog 79 #[.pointer (some ⟨E.en, 0, none⟩), .slice (some g) n cap, .int .i64 0] w' (Wrote (E.at b) l' x w')) :
    Calls Tryz.prog 50 #[.pointer (some ⟨E.en, 0, none⟩), .iface 75 (.slice (some g) n cap), .int .i64 0] w fun e w' => ∃ b, Wrote (E.at b) l (ob false :: x) w e w' := by
  obtain ⟨c1, _⟩ := h.en.cell (i := 1) (v := .iface 88 (.pointer (some ⟨E.S.bb, 0, none⟩))) rfl
  obtain ⟨c2, _⟩ := h.en.cell (i := 2) (v := bo E.le) rfl
  have c2' : w.cell? ⟨E.en, 2, none⟩ = some (.int .u8 1) := by rw [c2, hle]; rfl
  have d1 := cell_alloc c1 (.cells #[.int .u8 0] 5)
  have hcall := first_byte0 E l w (ob false) h hfit0
  have hbv : byteV (ob false) = .int .u8 0 := rfl
  rw [hbv] at hcall
  have HW := Lib.hid hw
  have hn1 := nil_write
  have hn2 := method_write
  have hm := make16
  clear h hle c2 hw
  go_enter Tryz.func50, Tryz.ntmps50
  go_wp2_with fail
  refine hcall.mono ?_
  rintro e w1 ⟨rfl, hE, hb⟩
  obtain ⟨e0, _⟩ := hE.en.cell (i := 0) (v := .slice none 0 0) rfl
  have f0 := ((hE.en.alloc (.cells #[.int .u8 0, .int .u8 0, .int .u8 0, .int .u8 0, .int .u8 0, .int .u8 0, .int .u8 0, .int .u8 0, .int .u8 0, .int .u8 0, .int .u8 0, .int .u8 0, .int .u8 0, .int .u8 0, .int .u8 0, .int .u8 0] 5)).cell (i := 0) (v := .slice none 0 0) rfl)
  obtain ⟨f0, f1⟩ := f0
  have hmade := made_work E _ w1 hE
  have hcall2 := HW.out w1.heap.size (l ++ [ob false]) z16 _ hmade.1 (hb.trans hmade.2) (by simp)
  have H1 := Lib.hid (hb.trans hmade.2)
  clear hcall c1 c2' d1 hb hE hbv hmade
  go_wp2_with fail
  refine hcall2.mono ?_
  rintro e w2 ⟨rfl, hE2, hb2⟩
  have H2 := Lib.hid (⟨hE2, H1.out.trans hb2⟩ : _ ∧ _)
  clear hcall2 hE2 hb2 e0 f0 f1
  go_wp2_with fail
  go_ret
  obtain ⟨ws', h5⟩ := H2.out.1
  exact ⟨w1.heap.size, rfl, ⟨ws', by rw [List.append_cons]; exact h5⟩, H2.out.2⟩

set_option maxRecDepth 100000 in
set_option maxHeartbeats 2000000 in
theorem e0_mp_true (E : Enr) (g : Addr) (n cap : Nat) (x : By.Bs) (l : By.Bs) (w : World) (hle : E.le = true) (h : Enc0 E w l) (hfit0 : l.length + 1 ≤ E.S.cap)
    (hw : ∀ (b : Nat) (l' : By.Bs) (ws' : List Value) (w' : World), EncW (E.at b) w' l' ws' → Below E.B w w' → l'.length = l.length + 1 → Calls Tryz.prog 76 #[.pointer (some ⟨E.en, 0, none⟩), .slice (some g) n cap, .int .i64 0] w' (Wrote (E.at b) l' x w')) :
    Calls Tryz.prog 50 #[.pointer (some ⟨E.en, 0, none⟩), .iface 77 (.slice (some g) n cap), .int .i64 0] w fun e w' => ∃ b, Wrote (E.at b) l (ob true :: x) w e w' := by
  obtain ⟨c1, _⟩ := h.en.cell (i := 1) (v := .iface 88 (.pointer (some ⟨E.S.bb, 0, none⟩))) rfl
  obtain ⟨c2, _⟩ := h.en.cell (i := 2) (v := bo E.le) rfl
  have c2' : w.cell? ⟨E.en, 2, none⟩ = some (.int .u8 0) := by rw [c2, hle]; rfl
  have d1 := cell_alloc c1 (.cells #[.int .u8 1] 5)
  have hcall := first_byte0 E l w (ob true) h hfit0
  have hbv : byteV (ob true) = .int .u8 1 := rfl
  rw [hbv] at hcall
  have HW := Lib.hid hw
  have hn1 := nil_write
  have hn2 := method_write
  have hm := make16
  clear h hle c2 hw
  go_enter Tryz.func50, Tryz.ntmps50
  go_wp2_with fail
  refine hcall.mono ?_
  rintro e w1 ⟨rfl, hE, hb⟩
  obtain ⟨e0, _⟩ := hE.en.cell (i := 0) (v := .slice none 0 0) rfl
  have f0 := ((hE.en.alloc (.cells #[.int .u8 0, .int .u8 0, .int .u8 0, .int .u8 0, .int .u8 0, .int .u8 0, .int .u8 0, .int .u8 0, .int .u8 0, .int .u8 0, .int .u8 0, .int .u8 0, .int .u8 0, .int .u8 0, .int .u8 0, .int .u8 0] 5)).cell (i := 0) (v := .slice none 0 0) rfl)
  obtain ⟨f0, f1⟩ := f0
  have hmade := made_work E _ w1 hE
  have hcall2 := HW.out w1.heap.size (l ++ [ob true]) z16 _ hmade.1 (hb.trans hmade.2) (by simp)
  have H1 := Lib.hid (hb.trans hmade.2)
  clear hcall c1 c2' d1 hb hE hbv hmade
  go_wp2_with fail
  refine hcall2.mono ?_
  rintro e w2 ⟨rfl, hE2, hb2⟩
  have H2 := Lib.hid (⟨hE2, H1.out.trans hb2⟩ : _ ∧ _)
  clear hcall2 hE2 hb2 e0 f0 f1
  go_wp2_with fail
  go_ret
  obtain ⟨ws', h5⟩ := H2.out.1
  exact ⟨w1.heap.size, rfl, ⟨ws', by rw [List.append_cons]; exact h5⟩, H2.out.2⟩

set_option maxRecDepth 100000 in
set_option maxHeartbeats 2000000 in
theorem e0_mp_false (E : Enr) (g : Addr) (n cap : Nat) (x : By.Bs) (l : By.Bs) (w : World) (hle : E.le = false) (h : Enc0 E w l) (hfit0 : l.length + 1 ≤ E.S.cap)
    (hw : ∀ (b : Nat) (l' : By.Bs) (ws' : List Value) (w' : World), EncW (E.at b) w' l' ws' → Below E.B w w' → l'.length = l.length + 1 → Calls Tryz.prog 76 #[.pointer (some ⟨E.en, 0, none⟩), .slice (some g) n cap, .int .i64 0] w' (Wrote (E.at b) l' x w')) :
    Calls Tryz.prog 50 #[.pointer (some ⟨E.en, 0, none⟩), .iface 77 (.slice (some g) n cap), .int .i64 0] w fun e w' => ∃ b, Wrote (E.at b) l (ob false :: x) w e w' := by
  obtain ⟨c1, _⟩ := h.en.cell (i := 1) (v := .iface 88 (.pointer (some ⟨E.S.bb, 0, none⟩))) rfl
  obtain ⟨c2, _⟩ := h.en.cell (i := 2) (v := bo E.le) rfl
  have c2' : w.cell? ⟨E.en, 2, none⟩ = some (.int .u8 1) := by rw [c2, hle]; rfl
  have d1 := cell_alloc c1 (.cells #[.int .u8 0] 5)
  have hcall := first_byte0 E l w (ob false) h hfit0
  have hbv : byteV (ob false) = .int .u8 0 := rfl
  rw [hbv] at hcall
  have HW := Lib.hid hw
  have hn1 := nil_write
  have hn2 := method_write
  have hm := make16
  clear h hle c2 hw
  go_enter Tryz.func50, Tryz.ntmps50
  go_wp2_with fail
  refine hcall.mono ?_
  rintro e w1 ⟨rfl, hE, hb⟩
  obtain ⟨e0, _⟩ := hE.en.cell (i := 0) (v := .slice none 0 0) rfl
  have f0 := ((hE.en.alloc (.cells #[.int .u8 0, .int .u8 0, .int .u8 0, .int .u8 0, .int .u8 0, .int .u8 0, .int .u8 0, .int .u8 0, .int .u8 0, .int .u8 0, .int .u8 0, .int .u8 0, .int .u8 0, .int .u8 0, .int .u8 0, .int .u8 0] 5)).cell (i := 0) (v := .slice none 0 0) rfl)
  obtain ⟨f0, f1⟩ := f0
  have hmade := made_work E _ w1 hE
  have hcall2 := HW.out w1.heap.size (l ++ [ob false]) z16 _ hmade.1 (hb.trans hmade.2) (by simp)
  have H1 := Lib.hid (hb.trans hmade.2)
  clear hcall c1 c2' d1 hb hE hbv hmade
  go_wp2_with fail
  refine hcall2.mono ?_
  rintro e w2 ⟨rfl, hE2, hb2⟩
  have H2 := Lib.hid (⟨hE2, H1.out.trans hb2⟩ : _ ∧ _)
  clear hcall2 hE2 hb2 e0 f0 f1
  go_wp2_with fail
  go_ret
  obtain ⟨ws', h5⟩ := H2.out.1
  exact ⟨w1.heap.size, rfl, ⟨ws', by rw [List.append_cons]; exact h5⟩, H2.out.2⟩

set_option maxRecDepth 100000 in
set_option maxHeartbeats 2000000 in
theorem e0_ml_true (E : Enr) (g : Addr) (n cap : Nat) (x : By.Bs) (l : By.Bs) (w : World) (hle : E.le = true) (h : Enc0 E w l) (hfit0 : l.length + 1 ≤ E.S.cap)
    (hw : ∀ (b : Nat) (l' : By.Bs) (ws' : List Value) (w' : World), EncW (E.at b) w' l' ws' → Below E.B w w' → l'.length = l.length + 1 → Calls Tryz.prog 78 #[.pointer (some ⟨E.en, 0, none⟩), .slice (some g) n cap, .int .i64 0] w' (Wrote (E.at b) l' x w')) :
    Calls Tryz.prog 50 #[.pointer (some ⟨E.en, 0, none⟩), .iface 79 (.slice (some g) n cap), .int .i64 0] w fun e w' => ∃ b, Wrote (E.at b) l (ob true :: x) w e w' := by
  obtain ⟨c1, _⟩ := h.en.cell (i := 1) (v := .iface 88 (.pointer (some ⟨E.S.bb, 0, none⟩))) rfl
  obtain ⟨c2, _⟩ := h.en.cell (i := 2) (v := bo E.le) rfl
  have c2' : w.cell? ⟨E.en, 2, none⟩ = some (.int .u8 0) := by rw [c2, hle]; rfl
  have d1 := cell_alloc c1 (.cells #[.int .u8 1] 5)
  have hcall := first_byte0 E l w (ob true) h hfit0
  have hbv : byteV (ob true) = .int .u8 1 := rfl
  rw [hbv] at hcall
  have HW := Lib.hid hw
  have hn1 := nil_write
  have hn2 := method_write
  have hm := make16
  clear h hle c2 hw
  go_enter Tryz.func50, Tryz.ntmps50
  go_wp2_with fail
  refine hcall.mono ?_
  rintro e w1 ⟨rfl, hE, hb⟩
  obtain ⟨e0, _⟩ := hE.en.cell (i := 0) (v := .slice none 0 0) rfl
  have f0 := ((hE.en.alloc (.cells #[.int .u8 0, .int .u8 0, .int .u8 0, .int .u8 0, .int .u8 0, .int .u8 0, .int .u8 0, .int .u8 0, .int .u8 0, .int .u8 0, .int .u8 0, .int .u8 0, .int .u8 0, .int .u8 0, .int .u8 0, .int .u8 0] 5)).cell (i := 0) (v := .slice none 0 0) rfl)
  obtain ⟨f0, f1⟩ := f0
  have hmade := made_work E _ w1 hE
  have hcall2 := HW.out w1.heap.size (l ++ [ob true]) z16 _ hmade.1 (hb.trans hmade.2) (by simp)
  have H1 := Lib.hid (hb.trans hmade.2)
  clear hcall c1 c2' d1 hb hE hbv hmade
  go_wp2_with fail
  refine hcall2.mono ?_
  rintro e w2 ⟨rfl, hE2, hb2⟩
  have H2 := Lib.hid (⟨hE2, H1.out.trans hb2⟩ : _ ∧ _)
  clear hcall2 hE2 hb2 e0 f0 f1
  go_wp2_with fail
  go_ret
  obtain ⟨ws', h5⟩ := H2.out.1
  exact ⟨w1.heap.size, rfl, ⟨ws', by rw [List.append_cons]; exact h5⟩, H2.out.2⟩

set_option maxRecDepth 100000 in
set_option maxHeartbeats 2000000 in
theorem e0_ml_false (E : Enr) (g : Addr) (n cap : Nat) (x : By.Bs) (l : By.Bs) (w : World) (hle : E.le = false) (h : Enc0 E w l) (hfit0 : l.length + 1 ≤ E.S.cap)
    (hw : ∀ (b : Nat) (l' : By.Bs) (ws' : List Value) (w' : World), EncW (E.at b) w' l' ws' → Below E.B w w' → l'.length = l.length + 1 → Calls Tryz.prog 78 #[.pointer (some ⟨E.en, 0, none⟩), .slice (some g) n cap, .int .i64 0] w' (Wrote (E.at b) l' x w')) :
    Calls Tryz.prog 50 #[.pointer (some ⟨E.en, 0, none⟩), .iface 79 (.slice (some g) n cap), .int .i64 0] w fun e w' => ∃ b, Wrote (E.at b) l (ob false :: x) w e w' := by
  obtain ⟨c1, _⟩ := h.en.cell (i := 1) (v := .iface 88 (.pointer (some ⟨E.S.bb, 0, none⟩))) rfl
  obtain ⟨c2, _⟩ := h.en.cell (i := 2) (v := bo E.le) rfl
  have c2' : w.cell? ⟨E.en, 2, none⟩ = some (.int .u8 1) := by rw [c2, hle]; rfl
  have d1 := cell_alloc c1 (.cells #[.int .u8 0] 5)
  have hcall := first_byte0 E l w (ob false) h hfit0
  have hbv : byteV (ob false) = .int .u8 0 := rfl
  rw [hbv] at hcall
  have HW := Lib.hid hw
  have hn1 := nil_write
  have hn2 := method_write
  have hm := make16
  clear h hle c2 hw
  go_enter Tryz.func50, Tryz.ntmps50
  go_wp2_with fail
  refine hcall.mono ?_
  rintro e w1 ⟨rfl, hE, hb⟩
  obtain ⟨e0, _⟩ := hE.en.cell (i := 0) (v := .slice none 0 0) rfl
  have f0 := ((hE.en.alloc (.cells #[.int .u8 0, .int .u8 0, .int .u8 0, .int .u8 0, .int .u8 0, .int .u8 0, .int .u8 0, .int .u8 0, .int .u8 0, .int .u8 0, .int .u8 0, .int .u8 0, .int .u8 0, .int .u8 0, .int .u8 0, .int .u8 0] 5)).cell (i := 0) (v := .slice none 0 0) rfl)
  obtain ⟨f0, f1⟩ := f0
  have hmade := made_work E _ w1 hE
  have hcall2 := HW.out w1.heap.size (l ++ [ob false]) z16 _ hmade.1 (hb.trans hmade.2) (by simp)
  have H1 := Lib.hid (hb.trans hmade.2)
  clear hcall c1 c2' d1 hb hE hbv hmade
  go_wp2_with fail
  refine hcall2.mono ?_
  rintro e w2 ⟨rfl, hE2, hb2⟩
  have H2 := Lib.hid (⟨hE2, H1.out.trans hb2⟩ : _ ∧ _)
  clear hcall2 hE2 hb2 e0 f0 f1
  go_wp2_with fail
  go_ret
  obtain ⟨ws', h5⟩ := H2.out.1
  exact ⟨w1.heap.size, rfl, ⟨ws', by rw [List.append_cons]; exact h5⟩, H2.out.2⟩

set_option maxRecDepth 100000 in
set_option maxHeartbeats 2000000 in
theorem e0_mg_true (E : Enr) (g : Addr) (n cap : Nat) (x : By.Bs) (l : By.Bs) (w : World) (hle : E.le = true) (h : Enc0 E w l) (hfit0 : l.length + 1 ≤ E.S.cap)
    (hw : ∀ (b : Nat) (l' : By.Bs) (ws' : List Value) (w' : World), EncW (E.at b) w' l' ws' → Below E.B w w' → l'.length = l.length + 1 → Calls Tryz.prog 80 #[.pointer (some ⟨E.en, 0, none⟩), .slice (some g) n cap, .int .i64 0] w' (Wrote (E.at b) l' x w')) :
    Calls Tryz.prog 50 #[.pointer (some ⟨E.en, 0, none⟩), .iface 81 (.slice (some g) n cap), .int .i64 0] w fun e w' => ∃ b, Wrote (E.at b) l (ob true :: x) w e w' := by
  obtain ⟨c1, _⟩ := h.en.cell (i := 1) (v := .iface 88 (.pointer (some ⟨E.S.bb, 0, none⟩))) rfl
  obtain ⟨c2, _⟩ := h.en.cell (i := 2) (v := bo E.le) rfl
  have c2' : w.cell? ⟨E.en, 2, none⟩ = some (.int .u8 0) := by rw [c2, hle]; rfl
  have d1 := cell_alloc c1 (.cells #[.int .u8 1] 5)
  have hcall := first_byte0 E l w (ob true) h hfit0
  have hbv : byteV (ob true) = .int .u8 1 := rfl
  rw [hbv] at hcall
  have HW := Lib.hid hw
  have hn1 := nil_write
  have hn2 := method_write
  have hm := make16
  clear h hle c2 hw
  go_enter Tryz.func50, Tryz.ntmps50
  go_wp2_with fail
  refine hcall.mono ?_
  rintro e w1 ⟨rfl, hE, hb⟩
  obtain ⟨e0, _⟩ := hE.en.cell (i := 0) (v := .slice none 0 0) rfl
  have f0 := ((hE.en.alloc (.cells #[.int .u8 0, .int .u8 0, .int .u8 0, .int .u8 0, .int .u8 0, .int .u8 0, .int .u8 0, .int .u8 0, .int .u8 0, .int .u8 0, .int .u8 0, .int .u8 0, .int .u8 0, .int .u8 0, .int .u8 0, .int .u8 0] 5)).cell (i := 0) (v := .slice none 0 0) rfl)
  obtain ⟨f0, f1⟩ := f0
  have hmade := made_work E _ w1 hE
  have hcall2 := HW.out w1.heap.size (l ++ [ob true]) z16 _ hmade.1 (hb.trans hmade.2) (by simp)
  have H1 := Lib.hid (hb.trans hmade.2)
  clear hcall c1 c2' d1 hb hE hbv hmade
  go_wp2_with fail
  refine hcall2.mono ?_
  rintro e w2 ⟨rfl, hE2, hb2⟩
  have H2 := Lib.hid (⟨hE2, H1.out.trans hb2⟩ : _ ∧ _)
  clear hcall2 hE2 hb2 e0 f0 f1
  go_wp2_with fail
  go_ret
  obtain ⟨ws', h5⟩ := H2.out.1
  exact ⟨w1.heap.size, rfl, ⟨ws', by rw [List.append_cons]; exact h5⟩, H2.out.2⟩

set_option maxRecDepth 100000 in
set_option maxHeartbeats 2000000 in
theorem e0_mg_false (E : Enr) (g : Addr) (n cap : Nat) (x : By.Bs) (l : By.Bs) (w : World) (hle : E.le = false) (h : Enc0 E w l) (hfit0 : l.length + 1 ≤ E.S.cap)
    (hw : ∀ (b : Nat) (l' : By.Bs) (ws' : List Value) (w' : World), EncW (E.at b) w' l' ws' → Below E.B w w' → l'.length = l.length + 1 → Calls Tryz.prog 80 #[.pointer (some ⟨E.en, 0, none⟩), .slice (some g) n cap, .int .i64 0] w' (Wrote (E.at b) l' x w')) :
    Calls Tryz.prog 50 #[.pointer (some ⟨E.en, 0, none⟩), .iface 81 (.slice (some g) n cap), .int .i64 0] w fun e w' => ∃ b, Wrote (E.at b) l (ob false :: x) w e w' := by
  obtain ⟨c1, _⟩ := h.en.cell (i := 1) (v := .iface 88 (.pointer (some ⟨E.S.bb, 0, none⟩))) rfl
  obtain ⟨c2, _⟩ := h.en.cell (i := 2) (v := bo E.le) rfl
  have c2' : w.cell? ⟨E.en, 2, none⟩ = some (.int .u8 1) := by rw [c2, hle]; rfl
  have d1 := cell_alloc c1 (.cells #[.int .u8 0] 5)
  have hcall := first_byte0 E l w (ob false) h hfit0
  have hbv : byteV (ob false) = .int .u8 0 := rfl
  rw [hbv] at hcall
  have HW := Lib.hid hw
  have hn1 := nil_write
  have hn2 := method_write
  have hm := make16
  clear h hle c2 hw
  go_enter Tryz.func50, Tryz.ntmps50
  go_wp2_with fail
  refine hcall.mono ?_
  rintro e w1 ⟨rfl, hE, hb⟩
  obtain ⟨e0, _⟩ := hE.en.cell (i := 0) (v := .slice none 0 0) rfl
  have f0 := ((hE.en.alloc (.cells #[.int .u8 0, .int .u8 0, .int .u8 0, .int .u8 0, .int .u8 0, .int .u8 0, .int .u8 0, .int .u8 0, .int .u8 0, .int .u8 0, .int .u8 0, .int .u8 0, .int .u8 0, .int .u8 0, .int .u8 0, .int .u8 0] 5)).cell (i := 0) (v := .slice none 0 0) rfl)
  obtain ⟨f0, f1⟩ := f0
  have hmade := made_work E _ w1 hE
  have hcall2 := HW.out w1.heap.size (l ++ [ob false]) z16 _ hmade.1 (hb.trans hmade.2) (by simp)
  have H1 := Lib.hid (hb.trans hmade.2)
  clear hcall c1 c2' d1 hb hE hbv hmade
  go_wp2_with fail
  refine hcall2.mono ?_
  rintro e w2 ⟨rfl, hE2, hb2⟩
  have H2 := Lib.hid (⟨hE2, H1.out.trans hb2⟩ : _ ∧ _)
  clear hcall2 hE2 hb2 e0 f0 f1
  go_wp2_with fail
  go_ret
  obtain ⟨ws', h5⟩ := H2.out.1
  exact ⟨w1.heap.size, rfl, ⟨ws', by rw [List.append_cons]; exact h5⟩, H2.out.2⟩

set_option maxRecDepth 100000 in
set_option maxHeartbeats 2000000 in
theorem e0_co_true (E : Enr) (g : Addr) (n cap : Nat) (x : By.Bs) (l : By.Bs) (w : World) (hle : E.le = true) (h : Enc0 E w l) (hfit0 : l.length + 1 ≤ E.S.cap)
    (hw : ∀ (b : Nat) (l' : By.Bs) (ws' : List Value) (w' : World), EncW (E.at b) w' l' ws' → Below E.B w w' → l'.length = l.length + 1 → Calls Tryz.prog 81 #[.pointer (some ⟨E.en, 0, none⟩), .slice (some g) n cap, .int .i64 0] w' (Wrote (E.at b) l' x w')) :
    Calls Tryz.prog 50 #[.pointer (some ⟨E.en, 0, none⟩), .iface 83 (.slice (some g) n cap), .int .i64 0] w fun e w' => ∃ b, Wrote (E.at b) l (ob true :: x) w e w' := by
  obtain ⟨c1, _⟩ := h.en.cell (i := 1) (v := .iface 88 (.pointer (some ⟨E.S.bb, 0, none⟩))) rfl
  obtain ⟨c2, _⟩ := h.en.cell (i := 2) (v := bo E.le) rfl
  have c2' : w.cell? ⟨E.en, 2, none⟩ = some (.int .u8 0) := by rw [c2, hle]; rfl
  have d1 := cell_alloc c1 (.cells #[.int .u8 1] 5)
  have hcall := first_byte0 E l w (ob true) h hfit0
  have hbv : byteV (ob true) = .int .u8 1 := rfl
  rw [hbv] at hcall
  have HW := Lib.hid hw
  have hn1 := nil_write
  have hn2 := method_write
  have hm := make16
  clear h hle c2 hw
  go_enter Tryz.func50, Tryz.ntmps50
  go_wp2_with fail
  refine hcall.mono ?_
  rintro e w1 ⟨rfl, hE, hb⟩
  obtain ⟨e0, _⟩ := hE.en.cell (i := 0) (v := .slice none 0 0) rfl
  have f0 := ((hE.en.alloc (.cells #[.int .u8 0, .int .u8 0, .int .u8 0, .int .u8 0, .int .u8 0, .int .u8 0, .int .u8 0, .int .u8 0, .int .u8 0, .int .u8 0, .int .u8 0, .int .u8 0, .int .u8 0, .int .u8 0, .int .u8 0, .int .u8 0] 5)).cell (i := 0) (v := .slice none 0 0) rfl)
  obtain ⟨f0, f1⟩ := f0
  have hmade := made_work E _ w1 hE
  have hcall2 := HW.out w1.heap.size (l ++ [ob true]) z16 _ hmade.1 (hb.trans hmade.2) (by simp)
  have H1 := Lib.hid (hb.trans hmade.2)
  clear hcall c1 c2' d1 hb hE hbv hmade
  go_wp2_with fail
  refine hcall2.mono ?_
  rintro e w2 ⟨rfl, hE2, hb2⟩
  have H2 := Lib.hid (⟨hE2, H1.out.trans hb2⟩ : _ ∧ _)
  clear hcall2 hE2 hb2 e0 f0 f1
  go_wp2_with fail
  go_ret
  obtain ⟨ws', h5⟩ := H2.out.1
  exact ⟨w1.heap.size, rfl, ⟨ws', by rw [List.append_cons]; exact h5⟩, H2.out.2⟩

set_option maxRecDepth 100000 in
set_option maxHeartbeats 2000000 in
theorem e0_co_false (E : Enr) (g : Addr) (n cap : Nat) (x : By.Bs) (l : By.Bs) (w : World) (hle : E.le = false) (h : Enc0 E w l) (hfit0 : l.length + 1 ≤ E.S.cap)
    (hw : ∀ (b : Nat) (l' : By.Bs) (ws' : List Value) (w' : World), EncW (E.at b) w' l' ws' → Below E.B w w' → l'.length = l.length + 1 → Calls Tryz.prog 81 #[.pointer (some ⟨E.en, 0, none⟩), .slice (some g) n cap, .int .i64 0] w' (Wrote (E.at b) l' x w')) :
    Calls Tryz.prog 50 #[.pointer (some ⟨E.en, 0, none⟩), .iface 83 (.slice (some g) n cap), .int .i64 0] w fun e w' => ∃ b, Wrote (E.at b) l (ob false :: x) w e w' := by
  obtain ⟨c1, _⟩ := h.en.cell (i := 1) (v := .iface 88 (.pointer (some ⟨E.S.bb, 0, none⟩))) rfl
  obtain ⟨c2, _⟩ := h.en.cell (i := 2) (v := bo E.le) rfl
  have c2' : w.cell? ⟨E.en, 2, none⟩ = some (.int .u8 1) := by rw [c2, hle]; rfl
  have d1 := cell_alloc c1 (.cells #[.int .u8 0] 5)
  have hcall := first_byte0 E l w (ob false) h hfit0
  have hbv : byteV (ob false) = .int .u8 0 := rfl
  rw [hbv] at hcall
  have HW := Lib.hid hw
  have hn1 := nil_write
  have hn2 := method_write
  have hm := make16
  clear h hle c2 hw
  go_enter Tryz.func50, Tryz.ntmps50
  go_wp2_with fail
  refine hcall.mono ?_
  rintro e w1 ⟨rfl, hE, hb⟩
  obtain ⟨e0, _⟩ := hE.en.cell (i := 0) (v := .slice none 0 0) rfl
  have f0 := ((hE.en.alloc (.cells #[.int .u8 0, .int .u8 0, .int .u8 0, .int .u8 0, .int .u8 0, .int .u8 0, .int .u8 0, .int .u8 0, .int .u8 0, .int .u8 0, .int .u8 0, .int .u8 0, .int .u8 0, .int .u8 0, .int .u8 0, .int .u8 0] 5)).cell (i := 0) (v := .slice none 0 0) rfl)
  obtain ⟨f0, f1⟩ := f0
  have hmade := made_work E _ w1 hE
  have hcall2 := HW.out w1.heap.size (l ++ [ob false]) z16 _ hmade.1 (hb.trans hmade.2) (by simp)
  have H1 := Lib.hid (hb.trans hmade.2)
  clear hcall c1 c2' d1 hb hE hbv hmade
  go_wp2_with fail
  refine hcall2.mono ?_
  rintro e w2 ⟨rfl, hE2, hb2⟩
  have H2 := Lib.hid (⟨hE2, H1.out.trans hb2⟩ : _ ∧ _)
  clear hcall2 hE2 hb2 e0 f0 f1
  go_wp2_with fail
  go_ret
  obtain ⟨ws', h5⟩ := H2.out.1
  exact ⟨w1.heap.size, rfl, ⟨ws', by rw [List.append_cons]; exact h5⟩, H2.out.2⟩

set_option maxRecDepth 100000 in
set_option maxHeartbeats 2000000 in
theorem e0_pt_true (E : Enr) (p : By.Pt) (hok : By.OkP p) (l : By.Bs) (w : World) (hle : E.le = true) (h : Enc0 E w l) (hfit0 : l.length + 21 ≤ E.S.cap) :
    Calls Tryz.prog 50 #[.pointer (some ⟨E.en, 0, none⟩), .iface 68 (.agg #[.float .f64 p.1, .float .f64 p.2]), .int .i64 0] w fun e w' => ∃ b, Wrote (E.at b) l (ob true :: (By.spell E.le 4 1 ++ By.encPt E.le p)) w e w' := by
  obtain ⟨c1, _⟩ := h.en.cell (i := 1) (v := .iface 88 (.pointer (some ⟨E.S.bb, 0, none⟩))) rfl
  obtain ⟨c2, _⟩ := h.en.cell (i := 2) (v := bo E.le) rfl
  have c2' : w.cell? ⟨E.en, 2, none⟩ = some (.int .u8 0) := by rw [c2, hle]; rfl
  have d1 := cell_alloc c1 (.cells #[.int .u8 1] 5)
  have hcall := first_byte0 E l w (ob true) h (by omega)
  have hbv : byteV (ob true) = .int .u8 1 := rfl
  rw [hbv] at hcall
  have HW := Lib.hid hok
  have hn1 := nil_write
  have hn2 := method_write
  have hm := make16
  clear h hle c2 hok
  go_enter Tryz.func50, Tryz.ntmps50
  go_wp2_with fail
  refine hcall.mono ?_
  rintro e w1 ⟨rfl, hE, hb⟩
  obtain ⟨e0, _⟩ := hE.en.cell (i := 0) (v := .slice none 0 0) rfl
  have f0 := ((hE.en.alloc (.cells #[.int .u8 0, .int .u8 0, .int .u8 0, .int .u8 0, .int .u8 0, .int .u8 0, .int .u8 0, .int .u8 0, .int .u8 0, .int .u8 0, .int .u8 0, .int .u8 0, .int .u8 0, .int .u8 0, .int .u8 0, .int .u8 0] 5)).cell (i := 0) (v := .slice none 0 0) rfl)
  obtain ⟨f0, f1⟩ := f0
  have hmade := made_work E _ w1 hE
  have b2 : Below ((W16 w1).setCell ⟨E.en, 0, none⟩ (.slice (some ⟨w1.heap.size, 0, none⟩) 16 16)).heap.size ((W16 w1).setCell ⟨E.en, 0, none⟩ (.slice (some ⟨w1.heap.size, 0, none⟩) 16 16)) (((W16 w1).setCell ⟨E.en, 0, none⟩ (.slice (some ⟨w1.heap.size, 0, none⟩) 16 16)).alloc (.cells #[.float .f64 p.1, .float .f64 p.2] 68)) := (Below.refl _ _).alloc (Nat.le_refl _) _
  have hbl : E.B ≤ ((W16 w1).setCell ⟨E.en, 0, none⟩ (.slice (some ⟨w1.heap.size, 0, none⟩) 16 16)).heap.size := by have := hmade.1.base.2.2.2; have := hmade.1.work.lt; exact Nat.le_trans ‹_› (Nat.le_of_lt ‹_›)
  have hcall2 := wp_any (E.at w1.heap.size) p (l ++ [ob true]) z16 _ (hmade.1.below b2) HW.out (by simp only [List.length_append, List.length_cons, List.length_nil]; show _ ≤ E.S.cap; omega)
  have H1 := Lib.hid ((hb.trans hmade.2).trans (b2.mono hbl))
  clear b2 hbl
  clear hcall c1 c2' d1 hb hE hbv hmade
  go_wp2_with fail
  refine hcall2.mono ?_
  rintro e w2 ⟨rfl, hE2, hb2⟩
  have H2 := Lib.hid (⟨hE2, H1.out.trans hb2⟩ : _ ∧ _)
  clear hcall2 hE2 hb2 e0 f0 f1
  go_wp2_with fail
  go_ret
  obtain ⟨ws', h5⟩ := H2.out.1
  exact ⟨w1.heap.size, rfl, ⟨ws', by rw [List.append_cons]; exact h5⟩, H2.out.2⟩

set_option maxRecDepth 100000 in
set_option maxHeartbeats 2000000 in
theorem e0_pt_false (E : Enr) (p : By.Pt) (hok : By.OkP p) (l : By.Bs) (w : World) (hle : E.le = false) (h : Enc0 E w l) (hfit0 : l.length + 21 ≤ E.S.cap) :
    Calls Tryz.prog 50 #[.pointer (some ⟨E.en, 0, none⟩), .iface 68 (.agg #[.float .f64 p.1, .float .f64 p.2]), .int .i64 0] w fun e w' => ∃ b, Wrote (E.at b) l (ob false :: (By.spell E.le 4 1 ++ By.encPt E.le p)) w e w' := by
  obtain ⟨c1, _⟩ := h.en.cell (i := 1) (v := .iface 88 (.pointer (some ⟨E.S.bb, 0, none⟩))) rfl
  obtain ⟨c2, _⟩ := h.en.cell (i := 2) (v := bo E.le) rfl
  have c2' : w.cell? ⟨E.en, 2, none⟩ = some (.int .u8 1) := by rw [c2, hle]; rfl
  have d1 := cell_alloc c1 (.cells #[.int .u8 0] 5)
  have hcall := first_byte0 E l w (ob false) h (by omega)
  have hbv : byteV (ob false) = .int .u8 0 := rfl
  rw [hbv] at hcall
  have HW := Lib.hid hok
  have hn1 := nil_write
  have hn2 := method_write
  have hm := make16
  clear h hle c2 hok
  go_enter Tryz.func50, Tryz.ntmps50
  go_wp2_with fail
  refine hcall.mono ?_
  rintro e w1 ⟨rfl, hE, hb⟩
  obtain ⟨e0, _⟩ := hE.en.cell (i := 0) (v := .slice none 0 0) rfl
  have f0 := ((hE.en.alloc (.cells #[.int .u8 0, .int .u8 0, .int .u8 0, .int .u8 0, .int .u8 0, .int .u8 0, .int .u8 0, .int .u8 0, .int .u8 0, .int .u8 0, .int .u8 0, .int .u8 0, .int .u8 0, .int .u8 0, .int .u8 0, .int .u8 0] 5)).cell (i := 0) (v := .slice none 0 0) rfl)
  obtain ⟨f0, f1⟩ := f0
  have hmade := made_work E _ w1 hE
  have b2 : Below ((W16 w1).setCell ⟨E.en, 0, none⟩ (.slice (some ⟨w1.heap.size, 0, none⟩) 16 16)).heap.size ((W16 w1).setCell ⟨E.en, 0, none⟩ (.slice (some ⟨w1.heap.size, 0, none⟩) 16 16)) (((W16 w1).setCell ⟨E.en, 0, none⟩ (.slice (some ⟨w1.heap.size, 0, none⟩) 16 16)).alloc (.cells #[.float .f64 p.1, .float .f64 p.2] 68)) := (Below.refl _ _).alloc (Nat.le_refl _) _
  have hbl : E.B ≤ ((W16 w1).setCell ⟨E.en, 0, none⟩ (.slice (some ⟨w1.heap.size, 0, none⟩) 16 16)).heap.size := by have := hmade.1.base.2.2.2; have := hmade.1.work.lt; exact Nat.le_trans ‹_› (Nat.le_of_lt ‹_›)
  have hcall2 := wp_any (E.at w1.heap.size) p (l ++ [ob false]) z16 _ (hmade.1.below b2) HW.out (by simp only [List.length_append, List.length_cons, List.length_nil]; show _ ≤ E.S.cap; omega)
  have H1 := Lib.hid ((hb.trans hmade.2).trans (b2.mono hbl))
  clear b2 hbl
  clear hcall c1 c2' d1 hb hE hbv hmade
  go_wp2_with fail
  refine hcall2.mono ?_
  rintro e w2 ⟨rfl, hE2, hb2⟩
  have H2 := Lib.hid (⟨hE2, H1.out.trans hb2⟩ : _ ∧ _)
  clear hcall2 hE2 hb2 e0 f0 f1
  go_wp2_with fail
  go_ret
  obtain ⟨ws', h5⟩ := H2.out.1
  exact ⟨w1.heap.size, rfl, ⟨ws', by rw [List.append_cons]; exact h5⟩, H2.out.2⟩

end Go.Proofs.YtjbjjphgnilhmaaGreatDoor
