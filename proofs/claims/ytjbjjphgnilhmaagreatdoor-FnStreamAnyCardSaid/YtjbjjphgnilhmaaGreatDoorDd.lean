/- An encoder; the walks of writeTypePrefix and writePoint. -/
import Derived.Test.YtjbjjphgnilhmaaGreatDoorDc
set_option linter.unusedVariables false
set_option linter.unusedSimpArgs false
namespace Go.Proofs.YtjbjjphgnilhmaaGreatDoor
open Go.RowKit

/-- Where an encoder lies. -/
structure Enr where
  en : Nat
  S : Sink
  wb : Nat
  le : Bool
  B : Nat
def Enr.cells (E : Enr) : Array Value := #[.slice (some ⟨E.wb, 0, none⟩) 16 16, .iface 88 (.pointer (some ⟨E.S.bb, 0, none⟩)), bo E.le]
/-- An encoder that has written l, with ws in its work block. -/
structure EncW (E : Enr) (w : World) (l : By.Bs) (ws : List Value) : Prop where
  en : Blk w E.en E.cells 176
  work : Blk w E.wb ws.toArray 5
  len : ws.length = 16
  hold : Holds E.S w l
  apart : E.en ≠ E.S.bb ∧ E.en ≠ E.S.db ∧ E.wb ≠ E.S.bb ∧ E.wb ≠ E.S.db ∧ E.wb ≠ E.en
  base : E.B ≤ E.en ∧ E.B ≤ E.S.bb ∧ E.B ≤ E.S.db ∧ E.B ≤ E.wb
theorem EncW.kept {E : Enr} {X : Nat → Prop} {w w' : World} {l : By.Bs} {ws : List Value} (h : EncW E w l ws) (hk : Kept X w w') (h1 : ∀ k, X k → k ≠ E.en ∧ k ≠ E.wb ∧ k ≠ E.S.bb ∧ k ≠ E.S.db) : EncW E w' l ws :=
  ⟨(hk.block _ h.en.lt fun x => (h1 _ x).1 rfl).trans h.en, (hk.block _ h.work.lt fun x => (h1 _ x).2.1 rfl).trans h.work, h.len, h.hold.kept hk (fun x => (h1 _ x).2.2.1 rfl) (fun x => (h1 _ x).2.2.2 rfl), h.apart, h.base⟩
theorem EncW.drewN {E : Enr} {w : World} {l : By.Bs} {ws : List Value} (h : EncW E w l ws) (q : Nat) : EncW E (w.drewN q) l ws :=
  h.kept ((Kept.refl (fun _ => False) w).drewN q) fun _ h => h.elim
theorem EncW.below {E : Enr} {w w' : World} {l : By.Bs} {ws : List Value} (h : EncW E w l ws) (hb : Below w.heap.size w w') : EncW E w' l ws :=
  h.kept (Kept.of_below hb (fun _ => False)) fun _ h => h.elim
theorem EncW.put {E : Enr} {w w' : World} {l x : By.Bs} {ws : List Value} {off : Nat} (h : EncW E w l ws) (hp : Put w w' E.wb off ws x) (ho : off + x.length ≤ 16) : EncW E w' l (splice ws off (x.map byteV)) ∧ Below E.B w w' :=
  ⟨⟨(hp.2.block _ h.en.lt (fun e => h.apart.2.2.2.2 e.symm)).trans h.en, hp.1, by rw [length_splice _ _ _ (by rw [List.length_map, h.len]; exact ho)]; exact h.len, h.hold.kept hp.2 (fun e => h.apart.2.2.1 e.symm) (fun e => h.apart.2.2.2.1 e.symm), h.apart, h.base⟩,
    hp.2.to_below (fun k hk => by have := h.base.2.2.2; omega) (by have := h.work.lt; have := h.base.2.2.2; omega)⟩
theorem EncW.wrote {E : Enr} {w w' : World} {l l' : By.Bs} {ws : List Value} (h : EncW E w l ws) (hh : Holds E.S w' l') (hk : Kept (fun i => i = E.S.bb ∨ i = E.S.db) w w') : EncW E w' l' ws ∧ Below E.B w w' :=
  ⟨⟨(hk.block _ h.en.lt (fun e => e.elim h.apart.1 h.apart.2.1)).trans h.en, (hk.block _ h.work.lt (fun e => e.elim h.apart.2.2.1 h.apart.2.2.2.1)).trans h.work, h.len, hh, h.apart, h.base⟩,
    hk.to_below (fun k hk => by rcases hk with rfl | rfl; exact h.base.2.1; exact h.base.2.2.1) (by have := h.work.lt; have := h.base.2.2.2; omega)⟩
theorem bytes_of {w : World} {b : Nat} {ws : List Value} {x : By.Bs} (h : Blk w b ws.toArray 5) (hx : ws.take x.length = x.map byteV) : BytesAt w b 0 x := by
  intro i y hi
  have hl := (List.getElem?_eq_some_iff.1 hi).1
  have e : ws[i]? = some (byteV y) := by
    rw [← List.getElem?_take_of_lt hl, hx, List.getElem?_map, hi]; rfl
  have := (h.cell (i := i) (v := byteV y) (by rw [List.getElem?_toArray]; exact e)).1
  rw [Nat.zero_add]; exact this
theorem nil_write (a : Addr) (w : World) : (nilAhead 333 88 (.pointer (some a)) "Write").run Tryz.prog w = .ok (some false) w := by kernel_rfl
theorem method_write (a : Addr) (w : World) : (method 333 88 (.pointer (some a)) "Write").run Tryz.prog w = .ok (142, .pointer (some a)) w := by kernel_rfl
theorem take_splice0 (ws : List Value) (x : List Value) (k : Nat) (hk : x.length = k) : (splice ws 0 x).take k = x := by
  unfold splice
  rw [List.take_zero, List.nil_append]
  exact List.take_left' hk

theorem EncW.cells {E : Enr} {w' : World} {l : By.Bs} {ws : List Value} (h : EncW E w' l ws) : w'.cell? ⟨E.en, 0, none⟩ = some (.slice (some ⟨E.wb, 0, none⟩) 16 16) ∧ w'.cell? ⟨E.en, 1, none⟩ = some (.iface 88 (.pointer (some ⟨E.S.bb, 0, none⟩))) ∧ w'.cell? ⟨E.en, 2, none⟩ = some (bo E.le) :=
  ⟨(h.en.cell (i := 0) (v := .slice (some ⟨E.wb, 0, none⟩) 16 16) rfl).1, (h.en.cell (i := 1) (v := .iface 88 (.pointer (some ⟨E.S.bb, 0, none⟩))) rfl).1, (h.en.cell (i := 2) (v := bo E.le) rfl).1⟩
theorem EncW.more {E : Enr} {w w' : World} {l a b : By.Bs} {ws : List Value} {k : Nat} (h : EncW E w l (splice ws 0 (a.map byteV))) (hk : a.length = k) (hp : Put w w' E.wb k (splice ws 0 (a.map byteV)) b) (ho : k + b.length ≤ 16) (hw : ws.length = 16) : EncW E w' l (splice ws 0 ((a ++ b).map byteV)) ∧ Below E.B w w' := by
  have h2 := h.put hp ho
  have e := splice_splice ws 0 (a.map byteV) (b.map byteV) (by simp; omega)
  rw [List.length_map, Nat.zero_add, hk, ← List.map_append] at e
  rw [e] at h2
  exact h2
theorem EncW.ready {E : Enr} {w : World} {l a : By.Bs} {ws : List Value} (h : EncW E w l (splice ws 0 (a.map byteV))) : BytesAt w E.wb 0 a :=
  bytes_of h.work (take_splice0 _ _ _ (by simp))
theorem EncW.write {E : Enr} {w : World} {l a : By.Bs} {ws : List Value} (h : EncW E w l (splice ws 0 (a.map byteV))) (k c : Nat) (ha : a.length = k) (hk : 1 ≤ k) (hf : l.length + k ≤ E.S.cap) :
    Calls Tryz.prog 142 #[.pointer (some ⟨E.S.bb, 0, none⟩), .slice (some ⟨E.wb, 0, none⟩) k c] w fun e w' => e = .returned (.tuple #[.int .i64 k, .nilIface]) ∧ EncW E w' (l ++ a) (splice ws 0 (a.map byteV)) ∧ Below E.B w w' :=
  (write_any E.S l a E.wb 0 k c w h.hold ha hk hf h.ready h.apart.2.2.1 h.apart.2.2.2.1).mono fun e w' he => ⟨he.1, h.wrote he.2.1 he.2.2⟩
theorem below_un2 {B : Nat} {w w' : World} {q : Nat} (h : Below B (w.drewN q) w') : Below B w w' := (below_drewN (Below.refl _ _) q).trans h

set_option maxRecDepth 100000 in
set_option maxHeartbeats 1000000 in
theorem wtp_any (E : Enr) (t n : Nat) (l : By.Bs) (ws : List Value) (w : World) (h : EncW E w l ws) (ht : t < 4294967296) (hn : n ≤ 2147483647) (hfit : l.length + 8 ≤ E.S.cap) :
    Calls Tryz.prog 91 #[.pointer (some ⟨E.en, 0, none⟩), .int .u32 t, .int .i64 n, .int .i64 0] w fun e w' => e = .returned .nilIface ∧ (∃ ws', EncW E w' (l ++ (By.spell E.le 4 t ++ By.spell E.le 4 n)) ws') ∧ Below E.B w w' := by
  have hlen := h.len
  have H := Lib.hid (⟨h, Below.refl _ _⟩ : EncW E w l ws ∧ Below E.B w w)
  have HWR := Lib.hid (show IntKind.u32.wrap (n : Int) = (n : Int) from IntWalk.u32_in _ (by omega))
  have hn1 := nil_write
  have hn2 := method_write
  clear h
  go_enter Tryz.func91, Tryz.ntmps91
  have hcells := H.out.1.cells
  obtain ⟨c0, c1, c2⟩ := hcells
  have HC := Lib.hid (p32_any E.le E.wb 0 16 16 t ws w.drew (H.out.1.drewN 1).work (by rw [hlen]; omega) (by omega) ht)
  go_wp2_with fail
  go_region_held3 (fun w' => w'.cell? ⟨E.en, 0, none⟩ = some (.slice (some ⟨E.wb, 0, none⟩) 16 16) ∧ w'.cell? ⟨E.en, 1, none⟩ = some (.iface 88 (.pointer (some ⟨E.S.bb, 0, none⟩))) ∧ w'.cell? ⟨E.en, 2, none⟩ = some (bo E.le)) (first | exact ⟨c0, c1, c2⟩ | exact h2.1.cells) ((go_at_call 89; refine Calls.mono HC.out ?_; rintro e w1 ⟨rfl, hp⟩; have h2 := (H.out.1.drewN 1).put hp (by rw [By.spell_length]; omega)))
  have H2 := Lib.hid (⟨h2.1, H.out.2.trans (below_un2 (q := 1) h2.2)⟩ : _ ∧ _)
  clear hp H HC c0 c1 c2 h2
  have H := H2
  clear H2
  have hcells := H.out.1.cells
  obtain ⟨c0, c1, c2⟩ := hcells
  have HC := Lib.hid (p32_any E.le E.wb 4 12 12 n (splice ws 0 ((By.spell E.le 4 t).map byteV)) w1.drew (H.out.1.drewN 1).work (by rw [H.out.1.len]; omega) (by omega) (by omega))
  go_wp2_with fail
  go_region_held3 (fun w' => w'.cell? ⟨E.en, 0, none⟩ = some (.slice (some ⟨E.wb, 0, none⟩) 16 16) ∧ w'.cell? ⟨E.en, 1, none⟩ = some (.iface 88 (.pointer (some ⟨E.S.bb, 0, none⟩))) ∧ w'.cell? ⟨E.en, 2, none⟩ = some (bo E.le)) (first | exact ⟨c0, c1, c2⟩ | exact h2.1.cells) ((go_at_call 89; rw [HWR.out]; refine Calls.mono HC.out ?_; rintro e w2 ⟨rfl, hp⟩; have h2 := (H.out.1.drewN 1).more (By.spell_length _ _ _) hp (by rw [By.spell_length]; omega) hlen))
  have H2 := Lib.hid (⟨h2.1, H.out.2.trans (below_un2 (q := 1) h2.2)⟩ : _ ∧ _)
  clear hp H HC c0 c1 c2 h2
  have H := H2
  clear H2
  have hcells := H.out.1.cells
  obtain ⟨c0, c1, c2⟩ := hcells
  have HC := Lib.hid ((show EncW _ w2.drew _ _ from H.out.1.drewN 1).write 8 16 (by rw [List.length_append, By.spell_length, By.spell_length]) (by omega) hfit)
  go_wp2_with fail
  go_region_held3 (fun w' => w'.cell? ⟨E.en, 0, none⟩ = some (.slice (some ⟨E.wb, 0, none⟩) 16 16) ∧ w'.cell? ⟨E.en, 1, none⟩ = some (.iface 88 (.pointer (some ⟨E.S.bb, 0, none⟩))) ∧ w'.cell? ⟨E.en, 2, none⟩ = some (bo E.le)) (first | exact ⟨c0, c1, c2⟩ | exact h2.1.cells) ((go_at_call 142; refine Calls.mono HC.out ?_; rintro e w3 ⟨rfl, h2⟩))
  have H2 := Lib.hid (⟨h2.1, H.out.2.trans (below_un2 (q := 1) h2.2)⟩ : _ ∧ _)
  clear hn1 H HC c0 c1 c2 h2
  have H := H2
  clear H2
  go_wp2_with fail
  go_ret
  exact ⟨rfl, ⟨_, H.out.1⟩, H.out.2⟩

end Go.Proofs.YtjbjjphgnilhmaaGreatDoor
