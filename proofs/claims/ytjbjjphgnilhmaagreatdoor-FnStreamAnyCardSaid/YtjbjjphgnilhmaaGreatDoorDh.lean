/- The walk of (*Encoder).Encode on a point, a line, a polygon, where the work block is made. -/
import Derived.Test.YtjbjjphgnilhmaaGreatDoorDg
set_option linter.unusedVariables false
set_option linter.unusedSimpArgs false
namespace Go.Proofs.YtjbjjphgnilhmaaGreatDoor
open Go.RowKit

/-- What an encoder does that writes x. -/
def Wrote (E : Enr) (l x : By.Bs) (w : World) (e : Ending) (w' : World) : Prop := e = .returned .nilIface ∧ (∃ ws', EncW E w' (l ++ x) ws') ∧ Below E.B w w'
def ob (le : Bool) : UInt8 := if le then 1 else 0
theorem hd_app (le : Bool) (t : Nat) (l x : By.Bs) : l ++ [ob le] ++ (By.spell le 4 t ++ x) = l ++ (By.hd le t ++ x) := by
  simp [By.hd, ob]
theorem byte_at (w : World) (x : UInt8) : BytesAt (w.alloc (.cells #[byteV x] 5)) w.heap.size 0 [x] := by
  intro i y hi
  match i, hi with
  | 0, hi =>
    simp at hi; subst hi
    exact ((Blk.new w #[byteV x] 5).cell (i := 0) (v := byteV x) rfl).1
/-- The first byte. -/
theorem first_byte (E : Enr) (l : By.Bs) (ws : List Value) (w : World) (x : UInt8) (h : EncW E w l ws) (hfit : l.length + 1 ≤ E.S.cap) :
    Calls Tryz.prog 142 #[.pointer (some ⟨E.S.bb, 0, none⟩), .slice (some ⟨w.heap.size, 0, none⟩) 1 1] (w.alloc (.cells #[byteV x] 5)) fun e w' => e = .returned (.tuple #[.int .i64 1, .nilIface]) ∧ EncW E w' (l ++ [x]) ws ∧ Below E.B w w' := by
  have hb : Below w.heap.size w (w.alloc (.cells #[byteV x] 5)) := (Below.refl _ _).alloc (Nat.le_refl _) _
  have h1 := h.below hb
  have n1 : w.heap.size ≠ E.S.bb := by have := h.hold.buf.lt; omega
  have n2 : w.heap.size ≠ E.S.db := by obtain ⟨_, _, _, hd⟩ := h.hold.data; have := hd.lt; omega
  have hbl : E.B ≤ w.heap.size := by have := h.base.2.2.2; have := h.work.lt; omega
  exact (write_any E.S l [x] w.heap.size 0 1 1 _ h1.hold rfl (Nat.le_refl _) hfit (byte_at w x) n1 n2).mono fun e w' he => ⟨he.1, (h1.wrote he.2.1 he.2.2).1, (hb.mono hbl).trans (h1.wrote he.2.1 he.2.2).2⟩

@[go_sem] theorem snil_22 (a : Addr) (n c : Nat) (w : World) : (binOp .eql 22 (.slice (some a) n c) (.slice none 0 0)).run Tryz.prog w = .ok (.bool false) w := by kernel_rfl
@[go_sem] theorem snil0_22 (w : World) : (binOp .eql 22 (.slice none 0 0) (.slice none 0 0)).run Tryz.prog w = .ok (.bool true) w := by kernel_rfl

@[go_sem] theorem snil_72 (a : Addr) (n c : Nat) (w : World) : (binOp .eql 72 (.slice (some a) n c) (.slice none 0 0)).run Tryz.prog w = .ok (.bool false) w := by kernel_rfl
@[go_sem] theorem snil0_72 (w : World) : (binOp .eql 72 (.slice none 0 0) (.slice none 0 0)).run Tryz.prog w = .ok (.bool true) w := by kernel_rfl

@[go_sem] theorem snil_75 (a : Addr) (n c : Nat) (w : World) : (binOp .eql 75 (.slice (some a) n c) (.slice none 0 0)).run Tryz.prog w = .ok (.bool false) w := by kernel_rfl
@[go_sem] theorem snil0_75 (w : World) : (binOp .eql 75 (.slice none 0 0) (.slice none 0 0)).run Tryz.prog w = .ok (.bool true) w := by kernel_rfl

@[go_sem] theorem snil_77 (a : Addr) (n c : Nat) (w : World) : (binOp .eql 77 (.slice (some a) n c) (.slice none 0 0)).run Tryz.prog w = .ok (.bool false) w := by kernel_rfl
@[go_sem] theorem snil0_77 (w : World) : (binOp .eql 77 (.slice none 0 0) (.slice none 0 0)).run Tryz.prog w = .ok (.bool true) w := by kernel_rfl

@[go_sem] theorem snil_79 (a : Addr) (n c : Nat) (w : World) : (binOp .eql 79 (.slice (some a) n c) (.slice none 0 0)).run Tryz.prog w = .ok (.bool false) w := by kernel_rfl
@[go_sem] theorem snil0_79 (w : World) : (binOp .eql 79 (.slice none 0 0) (.slice none 0 0)).run Tryz.prog w = .ok (.bool true) w := by kernel_rfl

@[go_sem] theorem snil_81 (a : Addr) (n c : Nat) (w : World) : (binOp .eql 81 (.slice (some a) n c) (.slice none 0 0)).run Tryz.prog w = .ok (.bool false) w := by kernel_rfl
@[go_sem] theorem snil0_81 (w : World) : (binOp .eql 81 (.slice none 0 0) (.slice none 0 0)).run Tryz.prog w = .ok (.bool true) w := by kernel_rfl

@[go_sem] theorem snil_83 (a : Addr) (n c : Nat) (w : World) : (binOp .eql 83 (.slice (some a) n c) (.slice none 0 0)).run Tryz.prog w = .ok (.bool false) w := by kernel_rfl
@[go_sem] theorem snil0_83 (w : World) : (binOp .eql 83 (.slice none 0 0) (.slice none 0 0)).run Tryz.prog w = .ok (.bool true) w := by kernel_rfl

@[go_sem] theorem snil_127 (a : Addr) (n c : Nat) (w : World) : (binOp .eql 127 (.slice (some a) n c) (.slice none 0 0)).run Tryz.prog w = .ok (.bool false) w := by kernel_rfl
@[go_sem] theorem snil0_127 (w : World) : (binOp .eql 127 (.slice none 0 0) (.slice none 0 0)).run Tryz.prog w = .ok (.bool true) w := by kernel_rfl

set_option maxRecDepth 100000 in
set_option maxHeartbeats 2000000 in
theorem en_pt_true (E : Enr) (p : By.Pt) (l : By.Bs) (ws : List Value) (w : World) (hle : E.le = true) (h : EncW E w l ws) (hok : By.OkP p) (hfit0 : l.length + 21 ≤ E.S.cap) :
    Calls Tryz.prog 50 #[.pointer (some ⟨E.en, 0, none⟩), .iface 68 (.agg #[.float .f64 p.1, .float .f64 p.2]), .int .i64 0] w (Wrote E l (By.encP E.le p) w) := by
  obtain ⟨c0, c1, c2⟩ := h.cells
  have c2' : w.cell? ⟨E.en, 2, none⟩ = some (.int .u8 0) := by rw [c2, hle]; rfl
  have d1 := cell_alloc c1 (.cells #[.int .u8 1] 5)
  have hcall := first_byte E l ws w (ob true) h (by omega)
  have hbv : byteV (ob true) = .int .u8 1 := rfl
  rw [hbv] at hcall
  have H0 := Lib.hid h
  have HOK := Lib.hid hok
  have HLE := Lib.hid hle
  have hn1 := nil_write
  have hn2 := method_write
  clear h hle hok c2
  go_enter Tryz.func50, Tryz.ntmps50
  go_wp2_with fail
  refine hcall.mono ?_
  rintro e w1 ⟨rfl, hE, hb⟩
  obtain ⟨e0, _, _⟩ := hE.cells
  have b2 : Below w1.heap.size w1 (w1.alloc (.cells #[.float .f64 p.1, .float .f64 p.2] 68)) := (Below.refl _ _).alloc (Nat.le_refl _) _
  have hcall2 := wp_any E p (l ++ [ob true]) ws (w1.alloc (.cells #[.float .f64 p.1, .float .f64 p.2] 68)) (hE.below b2) HOK.out (by simp only [List.length_append, List.length_cons, List.length_nil]; omega)
  have H1 := Lib.hid (⟨hE, hb.trans (b2.mono (by have := hE.base.2.2.2; have := hE.work.lt; omega))⟩ : _ ∧ _)
  clear hcall c0 c1 c2' d1 hb hE hbv
  go_wp2_with fail
  refine hcall2.mono ?_
  rintro e w2 ⟨rfl, hE2, hb2⟩
  have H2 := Lib.hid (⟨hE2, H1.out.2.trans hb2⟩ : _ ∧ _)
  clear hcall2 hE2 hb2 e0
  go_wp2_with fail
  go_ret
  obtain ⟨ws', h5⟩ := H2.out.1
  refine ⟨rfl, ⟨ws', ?_⟩, H2.out.2⟩
  rw [show ob true = ob E.le from by rw [HLE.out], hd_app] at h5
  exact h5

set_option maxRecDepth 100000 in
set_option maxHeartbeats 2000000 in
theorem en_pt_false (E : Enr) (p : By.Pt) (l : By.Bs) (ws : List Value) (w : World) (hle : E.le = false) (h : EncW E w l ws) (hok : By.OkP p) (hfit0 : l.length + 21 ≤ E.S.cap) :
    Calls Tryz.prog 50 #[.pointer (some ⟨E.en, 0, none⟩), .iface 68 (.agg #[.float .f64 p.1, .float .f64 p.2]), .int .i64 0] w (Wrote E l (By.encP E.le p) w) := by
  obtain ⟨c0, c1, c2⟩ := h.cells
  have c2' : w.cell? ⟨E.en, 2, none⟩ = some (.int .u8 1) := by rw [c2, hle]; rfl
  have d1 := cell_alloc c1 (.cells #[.int .u8 0] 5)
  have hcall := first_byte E l ws w (ob false) h (by omega)
  have hbv : byteV (ob false) = .int .u8 0 := rfl
  rw [hbv] at hcall
  have H0 := Lib.hid h
  have HOK := Lib.hid hok
  have HLE := Lib.hid hle
  have hn1 := nil_write
  have hn2 := method_write
  clear h hle hok c2
  go_enter Tryz.func50, Tryz.ntmps50
  go_wp2_with fail
  refine hcall.mono ?_
  rintro e w1 ⟨rfl, hE, hb⟩
  obtain ⟨e0, _, _⟩ := hE.cells
  have b2 : Below w1.heap.size w1 (w1.alloc (.cells #[.float .f64 p.1, .float .f64 p.2] 68)) := (Below.refl _ _).alloc (Nat.le_refl _) _
  have hcall2 := wp_any E p (l ++ [ob false]) ws (w1.alloc (.cells #[.float .f64 p.1, .float .f64 p.2] 68)) (hE.below b2) HOK.out (by simp only [List.length_append, List.length_cons, List.length_nil]; omega)
  have H1 := Lib.hid (⟨hE, hb.trans (b2.mono (by have := hE.base.2.2.2; have := hE.work.lt; omega))⟩ : _ ∧ _)
  clear hcall c0 c1 c2' d1 hb hE hbv
  go_wp2_with fail
  refine hcall2.mono ?_
  rintro e w2 ⟨rfl, hE2, hb2⟩
  have H2 := Lib.hid (⟨hE2, H1.out.2.trans hb2⟩ : _ ∧ _)
  clear hcall2 hE2 hb2 e0
  go_wp2_with fail
  go_ret
  obtain ⟨ws', h5⟩ := H2.out.1
  refine ⟨rfl, ⟨ws', ?_⟩, H2.out.2⟩
  rw [show ob false = ob E.le from by rw [HLE.out], hd_app] at h5
  exact h5

set_option maxRecDepth 100000 in
set_option maxHeartbeats 2000000 in
theorem en_ln_true (E : Enr) {E0 : TypeId} (v : Value) (ps : List By.Pt) (K : Knows) (l : By.Bs) (ws : List Value) (w : World) (hle : E.le = true) (h : EncW E w l ws) (hv : rowIs repPt E0 K v ps) (hL : Lies E.B K w) (hok : By.OkL ps) (hn0 : ps.length ≤ 2147483647) (hfit0 : l.length + 9 + 16 * ps.length ≤ E.S.cap) :
    Calls Tryz.prog 50 #[.pointer (some ⟨E.en, 0, none⟩), .iface 72 v, .int .i64 0] w (Wrote E l (By.encL E.le ps) w) := by
  obtain ⟨g, cap, rfl, hcap⟩ := RowIs.form hv
  obtain ⟨n, hne⟩ : ∃ n, n = ps.length := ⟨_, rfl⟩
  rw [← hne] at hv ⊢
  obtain ⟨c0, c1, c2⟩ := h.cells
  have c2' : w.cell? ⟨E.en, 2, none⟩ = some (.int .u8 0) := by rw [c2, hle]; rfl
  have d1 := cell_alloc c1 (.cells #[.int .u8 1] 5)
  have hcall := first_byte E l ws w (ob true) h (by omega)
  have hbv : byteV (ob true) = .int .u8 1 := rfl
  rw [hbv] at hcall
  have H0 := Lib.hid h
  have HOK := Lib.hid (⟨hv, hL, hok, hn0⟩ : _ ∧ _ ∧ _ ∧ _)
  have HLE := Lib.hid hle
  have hn1 := nil_write
  have hn2 := method_write
  clear h hle hok c2 hv hL hn0 hne
  go_enter Tryz.func50, Tryz.ntmps50
  go_wp2_with fail
  refine hcall.mono ?_
  rintro e w1 ⟨rfl, hE, hb⟩
  obtain ⟨e0, _, _⟩ := hE.cells
  have hcall2 := wl_any E (.slice (some ⟨g, 0, none⟩) n cap) ps K (l ++ [ob true]) ws w1 hE HOK.out.1 (HOK.out.2.1.below hb) HOK.out.2.2.1 HOK.out.2.2.2 (by simp only [List.length_append, List.length_cons, List.length_nil]; omega)
  have H1 := Lib.hid (⟨hE, hb.trans (Below.refl _ _)⟩ : _ ∧ _)
  clear hcall c0 c1 c2' d1 hb hE hbv
  go_wp2_with fail
  refine hcall2.mono ?_
  rintro e w2 ⟨rfl, hE2, hb2⟩
  have H2 := Lib.hid (⟨hE2, H1.out.2.trans hb2⟩ : _ ∧ _)
  clear hcall2 hE2 hb2 e0
  go_wp2_with fail
  go_ret
  obtain ⟨ws', h5⟩ := H2.out.1
  refine ⟨rfl, ⟨ws', ?_⟩, H2.out.2⟩
  rw [show ob true = ob E.le from by rw [HLE.out], hd_app] at h5
  exact h5

set_option maxRecDepth 100000 in
set_option maxHeartbeats 2000000 in
theorem en_ln_false (E : Enr) {E0 : TypeId} (v : Value) (ps : List By.Pt) (K : Knows) (l : By.Bs) (ws : List Value) (w : World) (hle : E.le = false) (h : EncW E w l ws) (hv : rowIs repPt E0 K v ps) (hL : Lies E.B K w) (hok : By.OkL ps) (hn0 : ps.length ≤ 2147483647) (hfit0 : l.length + 9 + 16 * ps.length ≤ E.S.cap) :
    Calls Tryz.prog 50 #[.pointer (some ⟨E.en, 0, none⟩), .iface 72 v, .int .i64 0] w (Wrote E l (By.encL E.le ps) w) := by
  obtain ⟨g, cap, rfl, hcap⟩ := RowIs.form hv
  obtain ⟨n, hne⟩ : ∃ n, n = ps.length := ⟨_, rfl⟩
  rw [← hne] at hv ⊢
  obtain ⟨c0, c1, c2⟩ := h.cells
  have c2' : w.cell? ⟨E.en, 2, none⟩ = some (.int .u8 1) := by rw [c2, hle]; rfl
  have d1 := cell_alloc c1 (.cells #[.int .u8 0] 5)
  have hcall := first_byte E l ws w (ob false) h (by omega)
  have hbv : byteV (ob false) = .int .u8 0 := rfl
  rw [hbv] at hcall
  have H0 := Lib.hid h
  have HOK := Lib.hid (⟨hv, hL, hok, hn0⟩ : _ ∧ _ ∧ _ ∧ _)
  have HLE := Lib.hid hle
  have hn1 := nil_write
  have hn2 := method_write
  clear h hle hok c2 hv hL hn0 hne
  go_enter Tryz.func50, Tryz.ntmps50
  go_wp2_with fail
  refine hcall.mono ?_
  rintro e w1 ⟨rfl, hE, hb⟩
  obtain ⟨e0, _, _⟩ := hE.cells
  have hcall2 := wl_any E (.slice (some ⟨g, 0, none⟩) n cap) ps K (l ++ [ob false]) ws w1 hE HOK.out.1 (HOK.out.2.1.below hb) HOK.out.2.2.1 HOK.out.2.2.2 (by simp only [List.length_append, List.length_cons, List.length_nil]; omega)
  have H1 := Lib.hid (⟨hE, hb.trans (Below.refl _ _)⟩ : _ ∧ _)
  clear hcall c0 c1 c2' d1 hb hE hbv
  go_wp2_with fail
  refine hcall2.mono ?_
  rintro e w2 ⟨rfl, hE2, hb2⟩
  have H2 := Lib.hid (⟨hE2, H1.out.2.trans hb2⟩ : _ ∧ _)
  clear hcall2 hE2 hb2 e0
  go_wp2_with fail
  go_ret
  obtain ⟨ws', h5⟩ := H2.out.1
  refine ⟨rfl, ⟨ws', ?_⟩, H2.out.2⟩
  rw [show ob false = ob E.le from by rw [HLE.out], hd_app] at h5
  exact h5

set_option maxRecDepth 100000 in
set_option maxHeartbeats 2000000 in
theorem en_pg_true (E : Enr) {E0 E1 : TypeId} (v : Value) (pss : List (List By.Pt)) (K : Knows) (l : By.Bs) (ws : List Value) (w : World) (hle : E.le = true) (h : EncW E w l ws) (hv : rowIs (repRow repPt E0) E1 K v pss) (hL : Lies E.B K w) (hok : ∀ r ∈ pss, By.OkL r) (hn0 : pss.length ≤ 2147483647) (hm : ∀ r ∈ pss, r.length ≤ 2147483647) (hfit0 : l.length + 9 + (pss.flatMap (By.encPts E.le)).length ≤ E.S.cap) :
    Calls Tryz.prog 50 #[.pointer (some ⟨E.en, 0, none⟩), .iface 75 v, .int .i64 0] w (Wrote E l (By.encG E.le pss) w) := by
  obtain ⟨g, cap, rfl, hcap⟩ := RowIs.form hv
  obtain ⟨n, hne⟩ : ∃ n, n = pss.length := ⟨_, rfl⟩
  rw [← hne] at hv ⊢
  obtain ⟨c0, c1, c2⟩ := h.cells
  have c2' : w.cell? ⟨E.en, 2, none⟩ = some (.int .u8 0) := by rw [c2, hle]; rfl
  have d1 := cell_alloc c1 (.cells #[.int .u8 1] 5)
  have hcall := first_byte E l ws w (ob true) h (by omega)
  have hbv : byteV (ob true) = .int .u8 1 := rfl
  rw [hbv] at hcall
  have H0 := Lib.hid h
  have HOK := Lib.hid (⟨hv, hL, hok, hn0, hm⟩ : _ ∧ _ ∧ _ ∧ _ ∧ _)
  have HLE := Lib.hid hle
  have hn1 := nil_write
  have hn2 := method_write
  clear h hle hok c2 hv hL hn0 hne hm
  go_enter Tryz.func50, Tryz.ntmps50
  go_wp2_with fail
  refine hcall.mono ?_
  rintro e w1 ⟨rfl, hE, hb⟩
  obtain ⟨e0, _, _⟩ := hE.cells
  have hcall2 := wpg_any E (.slice (some ⟨g, 0, none⟩) n cap) pss K (l ++ [ob true]) ws w1 hE HOK.out.1 (HOK.out.2.1.below hb) HOK.out.2.2.1 HOK.out.2.2.2.1 HOK.out.2.2.2.2 (by simp only [List.length_append, List.length_cons, List.length_nil]; omega)
  have H1 := Lib.hid (⟨hE, hb.trans (Below.refl _ _)⟩ : _ ∧ _)
  clear hcall c0 c1 c2' d1 hb hE hbv
  go_wp2_with fail
  refine hcall2.mono ?_
  rintro e w2 ⟨rfl, hE2, hb2⟩
  have H2 := Lib.hid (⟨hE2, H1.out.2.trans hb2⟩ : _ ∧ _)
  clear hcall2 hE2 hb2 e0
  go_wp2_with fail
  go_ret
  obtain ⟨ws', h5⟩ := H2.out.1
  refine ⟨rfl, ⟨ws', ?_⟩, H2.out.2⟩
  rw [show ob true = ob E.le from by rw [HLE.out], hd_app] at h5
  exact h5

set_option maxRecDepth 100000 in
set_option maxHeartbeats 2000000 in
theorem en_pg_false (E : Enr) {E0 E1 : TypeId} (v : Value) (pss : List (List By.Pt)) (K : Knows) (l : By.Bs) (ws : List Value) (w : World) (hle : E.le = false) (h : EncW E w l ws) (hv : rowIs (repRow repPt E0) E1 K v pss) (hL : Lies E.B K w) (hok : ∀ r ∈ pss, By.OkL r) (hn0 : pss.length ≤ 2147483647) (hm : ∀ r ∈ pss, r.length ≤ 2147483647) (hfit0 : l.length + 9 + (pss.flatMap (By.encPts E.le)).length ≤ E.S.cap) :
    Calls Tryz.prog 50 #[.pointer (some ⟨E.en, 0, none⟩), .iface 75 v, .int .i64 0] w (Wrote E l (By.encG E.le pss) w) := by
  obtain ⟨g, cap, rfl, hcap⟩ := RowIs.form hv
  obtain ⟨n, hne⟩ : ∃ n, n = pss.length := ⟨_, rfl⟩
  rw [← hne] at hv ⊢
  obtain ⟨c0, c1, c2⟩ := h.cells
  have c2' : w.cell? ⟨E.en, 2, none⟩ = some (.int .u8 1) := by rw [c2, hle]; rfl
  have d1 := cell_alloc c1 (.cells #[.int .u8 0] 5)
  have hcall := first_byte E l ws w (ob false) h (by omega)
  have hbv : byteV (ob false) = .int .u8 0 := rfl
  rw [hbv] at hcall
  have H0 := Lib.hid h
  have HOK := Lib.hid (⟨hv, hL, hok, hn0, hm⟩ : _ ∧ _ ∧ _ ∧ _ ∧ _)
  have HLE := Lib.hid hle
  have hn1 := nil_write
  have hn2 := method_write
  clear h hle hok c2 hv hL hn0 hne hm
  go_enter Tryz.func50, Tryz.ntmps50
  go_wp2_with fail
  refine hcall.mono ?_
  rintro e w1 ⟨rfl, hE, hb⟩
  obtain ⟨e0, _, _⟩ := hE.cells
  have hcall2 := wpg_any E (.slice (some ⟨g, 0, none⟩) n cap) pss K (l ++ [ob false]) ws w1 hE HOK.out.1 (HOK.out.2.1.below hb) HOK.out.2.2.1 HOK.out.2.2.2.1 HOK.out.2.2.2.2 (by simp only [List.length_append, List.length_cons, List.length_nil]; omega)
  have H1 := Lib.hid (⟨hE, hb.trans (Below.refl _ _)⟩ : _ ∧ _)
  clear hcall c0 c1 c2' d1 hb hE hbv
  go_wp2_with fail
  refine hcall2.mono ?_
  rintro e w2 ⟨rfl, hE2, hb2⟩
  have H2 := Lib.hid (⟨hE2, H1.out.2.trans hb2⟩ : _ ∧ _)
  clear hcall2 hE2 hb2 e0
  go_wp2_with fail
  go_ret
  obtain ⟨ws', h5⟩ := H2.out.1
  refine ⟨rfl, ⟨ws', ?_⟩, H2.out.2⟩
  rw [show ob false = ob E.le from by rw [HLE.out], hd_app] at h5
  exact h5

end Go.Proofs.YtjbjjphgnilhmaaGreatDoor
