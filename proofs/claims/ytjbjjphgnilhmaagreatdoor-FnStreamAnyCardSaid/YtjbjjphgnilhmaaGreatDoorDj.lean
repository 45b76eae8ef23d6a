/- The walk of (*Encoder).Encode on every shape, where the work block is made. -/
import Derived.Test.YtjbjjphgnilhmaaGreatDoorDi
set_option linter.unusedVariables false
set_option linter.unusedSimpArgs false
namespace Go.Proofs.YtjbjjphgnilhmaaGreatDoor
open Go.RowKit

set_option maxRecDepth 100000 in
set_option maxHeartbeats 2000000 in
theorem en_mp_true (E : Enr) (g : Addr) (n cap : Nat) (x : By.Bs) (l : By.Bs) (ws : List Value) (w : World) (hle : E.le = true) (h : EncW E w l ws) (hfit0 : l.length + 1 ≤ E.S.cap)
    (hw : ∀ (l' : By.Bs) (ws' : List Value) (w' : World), EncW E w' l' ws' → Below E.B w w' → l'.length = l.length + 1 → Calls Tryz.prog 76 #[.pointer (some ⟨E.en, 0, none⟩), .slice (some g) n cap, .int .i64 0] w' (Wrote E l' x w')) :
    Calls Tryz.prog 50 #[.pointer (some ⟨E.en, 0, none⟩), .iface 77 (.slice (some g) n cap), .int .i64 0] w (Wrote E l (ob true :: x) w) := by
  obtain ⟨c0, c1, c2⟩ := h.cells
  have c2' : w.cell? ⟨E.en, 2, none⟩ = some (.int .u8 0) := by rw [c2, hle]; rfl
  have d1 := cell_alloc c1 (.cells #[.int .u8 1] 5)
  have hcall := first_byte E l ws w (ob true) h (by omega)
  have hbv : byteV (ob true) = .int .u8 1 := rfl
  rw [hbv] at hcall
  have HW := Lib.hid hw
  have hn1 := nil_write
  have hn2 := method_write
  clear h hle c2 hw
  go_enter Tryz.func50, Tryz.ntmps50
  go_wp2_with fail
  refine hcall.mono ?_
  rintro e w1 ⟨rfl, hE, hb⟩
  obtain ⟨e0, _, _⟩ := hE.cells
  have hcall2 := HW.out (l ++ [ob true]) ws w1 hE hb (by simp)
  have H1 := Lib.hid hb
  clear hcall c0 c1 c2' d1 hb hE hbv
  go_wp2_with fail
  refine hcall2.mono ?_
  rintro e w2 ⟨rfl, hE2, hb2⟩
  have H2 := Lib.hid (⟨hE2, H1.out.trans hb2⟩ : _ ∧ _)
  clear hcall2 hE2 hb2 e0
  go_wp2_with fail
  go_ret
  obtain ⟨ws', h5⟩ := H2.out.1
  exact ⟨rfl, ⟨ws', by rw [List.append_cons]; exact h5⟩, H2.out.2⟩

set_option maxRecDepth 100000 in
set_option maxHeartbeats 2000000 in
theorem en_mp_false (E : Enr) (g : Addr) (n cap : Nat) (x : By.Bs) (l : By.Bs) (ws : List Value) (w : World) (hle : E.le = false) (h : EncW E w l ws) (hfit0 : l.length + 1 ≤ E.S.cap)
    (hw : ∀ (l' : By.Bs) (ws' : List Value) (w' : World), EncW E w' l' ws' → Below E.B w w' → l'.length = l.length + 1 → Calls Tryz.prog 76 #[.pointer (some ⟨E.en, 0, none⟩), .slice (some g) n cap, .int .i64 0] w' (Wrote E l' x w')) :
    Calls Tryz.prog 50 #[.pointer (some ⟨E.en, 0, none⟩), .iface 77 (.slice (some g) n cap), .int .i64 0] w (Wrote E l (ob false :: x) w) := by
  obtain ⟨c0, c1, c2⟩ := h.cells
  have c2' : w.cell? ⟨E.en, 2, none⟩ = some (.int .u8 1) := by rw [c2, hle]; rfl
  have d1 := cell_alloc c1 (.cells #[.int .u8 0] 5)
  have hcall := first_byte E l ws w (ob false) h (by omega)
  have hbv : byteV (ob false) = .int .u8 0 := rfl
  rw [hbv] at hcall
  have HW := Lib.hid hw
  have hn1 := nil_write
  have hn2 := method_write
  clear h hle c2 hw
  go_enter Tryz.func50, Tryz.ntmps50
  go_wp2_with fail
  refine hcall.mono ?_
  rintro e w1 ⟨rfl, hE, hb⟩
  obtain ⟨e0, _, _⟩ := hE.cells
  have hcall2 := HW.out (l ++ [ob false]) ws w1 hE hb (by simp)
  have H1 := Lib.hid hb
  clear hcall c0 c1 c2' d1 hb hE hbv
  go_wp2_with fail
  refine hcall2.mono ?_
  rintro e w2 ⟨rfl, hE2, hb2⟩
  have H2 := Lib.hid (⟨hE2, H1.out.trans hb2⟩ : _ ∧ _)
  clear hcall2 hE2 hb2 e0
  go_wp2_with fail
  go_ret
  obtain ⟨ws', h5⟩ := H2.out.1
  exact ⟨rfl, ⟨ws', by rw [List.append_cons]; exact h5⟩, H2.out.2⟩

set_option maxRecDepth 100000 in
set_option maxHeartbeats 2000000 in
theorem en_ml_true (E : Enr) (g : Addr) (n cap : Nat) (x : By.Bs) (l : By.Bs) (ws : List Value) (w : World) (hle : E.le = true) (h : EncW E w l ws) (hfit0 : l.length + 1 ≤ E.S.cap)
    (hw : ∀ (l' : By.Bs) (ws' : List Value) (w' : World), EncW E w' l' ws' → Below E.B w w' → l'.length = l.length + 1 → Calls Tryz.prog 78 #[.pointer (some ⟨E.en, 0, none⟩), .slice (some g) n cap, .int .i64 0] w' (Wrote E l' x w')) :
    Calls Tryz.prog 50 #[.pointer (some ⟨E.en, 0, none⟩), .iface 79 (.slice (some g) n cap), .int .i64 0] w (Wrote E l (ob true :: x) w) := by
  obtain ⟨c0, c1, c2⟩ := h.cells
  have c2' : w.cell? ⟨E.en, 2, none⟩ = some (.int .u8 0) := by rw [c2, hle]; rfl
  have d1 := cell_alloc c1 (.cells #[.int .u8 1] 5)
  have hcall := first_byte E l ws w (ob true) h (by omega)
  have hbv : byteV (ob true) = .int .u8 1 := rfl
  rw [hbv] at hcall
  have HW := Lib.hid hw
  have hn1 := nil_write
  have hn2 := method_write
  clear h hle c2 hw
  go_enter Tryz.func50, Tryz.ntmps50
  go_wp2_with fail
  refine hcall.mono ?_
  rintro e w1 ⟨rfl, hE, hb⟩
  obtain ⟨e0, _, _⟩ := hE.cells
  have hcall2 := HW.out (l ++ [ob true]) ws w1 hE hb (by simp)
  have H1 := Lib.hid hb
  clear hcall c0 c1 c2' d1 hb hE hbv
  go_wp2_with fail
  refine hcall2.mono ?_
  rintro e w2 ⟨rfl, hE2, hb2⟩
  have H2 := Lib.hid (⟨hE2, H1.out.trans hb2⟩ : _ ∧ _)
  clear hcall2 hE2 hb2 e0
  go_wp2_with fail
  go_ret
  obtain ⟨ws', h5⟩ := H2.out.1
  exact ⟨rfl, ⟨ws', by rw [List.append_cons]; exact h5⟩, H2.out.2⟩

set_option maxRecDepth 100000 in
set_option maxHeartbeats 2000000 in
theorem en_ml_false (E : Enr) (g : Addr) (n cap : Nat) (x : By.Bs) (l : By.Bs) (ws : List Value) (w : World) (hle : E.le = false) (h : EncW E w l ws) (hfit0 : l.length + 1 ≤ E.S.cap)
    (hw : ∀ (l' : By.Bs) (ws' : List Value) (w' : World), EncW E w' l' ws' → Below E.B w w' → l'.length = l.length + 1 → Calls Tryz.prog 78 #[.pointer (some ⟨E.en, 0, none⟩), .slice (some g) n cap, .int .i64 0] w' (Wrote E l' x w')) :
    Calls Tryz.prog 50 #[.pointer (some ⟨E.en, 0, none⟩), .iface 79 (.slice (some g) n cap), .int .i64 0] w (Wrote E l (ob false :: x) w) := by
  obtain ⟨c0, c1, c2⟩ := h.cells
  have c2' : w.cell? ⟨E.en, 2, none⟩ = some (.int .u8 1) := by rw [c2, hle]; rfl
  have d1 := cell_alloc c1 (.cells #[.int .u8 0] 5)
  have hcall := first_byte E l ws w (ob false) h (by omega)
  have hbv : byteV (ob false) = .int .u8 0 := rfl
  rw [hbv] at hcall
  have HW := Lib.hid hw
  have hn1 := nil_write
  have hn2 := method_write
  clear h hle c2 hw
  go_enter Tryz.func50, Tryz.ntmps50
  go_wp2_with fail
  refine hcall.mono ?_
  rintro e w1 ⟨rfl, hE, hb⟩
  obtain ⟨e0, _, _⟩ := hE.cells
  have hcall2 := HW.out (l ++ [ob false]) ws w1 hE hb (by simp)
  have H1 := Lib.hid hb
  clear hcall c0 c1 c2' d1 hb hE hbv
  go_wp2_with fail
  refine hcall2.mono ?_
  rintro e w2 ⟨rfl, hE2, hb2⟩
  have H2 := Lib.hid (⟨hE2, H1.out.trans hb2⟩ : _ ∧ _)
  clear hcall2 hE2 hb2 e0
  go_wp2_with fail
  go_ret
  obtain ⟨ws', h5⟩ := H2.out.1
  exact ⟨rfl, ⟨ws', by rw [List.append_cons]; exact h5⟩, H2.out.2⟩

set_option maxRecDepth 100000 in
set_option maxHeartbeats 2000000 in
theorem en_mg_true (E : Enr) (g : Addr) (n cap : Nat) (x : By.Bs) (l : By.Bs) (ws : List Value) (w : World) (hle : E.le = true) (h : EncW E w l ws) (hfit0 : l.length + 1 ≤ E.S.cap)
    (hw : ∀ (l' : By.Bs) (ws' : List Value) (w' : World), EncW E w' l' ws' → Below E.B w w' → l'.length = l.length + 1 → Calls Tryz.prog 80 #[.pointer (some ⟨E.en, 0, none⟩), .slice (some g) n cap, .int .i64 0] w' (Wrote E l' x w')) :
    Calls Tryz.prog 50 #[.pointer (some ⟨E.en, 0, none⟩), .iface 81 (.slice (some g) n cap), .int .i64 0] w (Wrote E l (ob true :: x) w) := by
  obtain ⟨c0, c1, c2⟩ := h.cells
  have c2' : w.cell? ⟨E.en, 2, none⟩ = some (.int .u8 0) := by rw [c2, hle]; rfl
  have d1 := cell_alloc c1 (.cells #[.int .u8 1] 5)
  have hcall := first_byte E l ws w (ob true) h (by omega)
  have hbv : byteV (ob true) = .int .u8 1 := rfl
  rw [hbv] at hcall
  have HW := Lib.hid hw
  have hn1 := nil_write
  have hn2 := method_write
  clear h hle c2 hw
  go_enter Tryz.func50, Tryz.ntmps50
  go_wp2_with fail
  refine hcall.mono ?_
  rintro e w1 ⟨rfl, hE, hb⟩
  obtain ⟨e0, _, _⟩ := hE.cells
  have hcall2 := HW.out (l ++ [ob true]) ws w1 hE hb (by simp)
  have H1 := Lib.hid hb
  clear hcall c0 c1 c2' d1 hb hE hbv
  go_wp2_with fail
  refine hcall2.mono ?_
  rintro e w2 ⟨rfl, hE2, hb2⟩
  have H2 := Lib.hid (⟨hE2, H1.out.trans hb2⟩ : _ ∧ _)
  clear hcall2 hE2 hb2 e0
  go_wp2_with fail
  go_ret
  obtain ⟨ws', h5⟩ := H2.out.1
  exact ⟨rfl, ⟨ws', by rw [List.append_cons]; exact h5⟩, H2.out.2⟩

set_option maxRecDepth 100000 in
set_option maxHeartbeats 2000000 in
theorem en_mg_false (E : Enr) (g : Addr) (n cap : Nat) (x : By.Bs) (l : By.Bs) (ws : List Value) (w : World) (hle : E.le = false) (h : EncW E w l ws) (hfit0 : l.length + 1 ≤ E.S.cap)
    (hw : ∀ (l' : By.Bs) (ws' : List Value) (w' : World), EncW E w' l' ws' → Below E.B w w' → l'.length = l.length + 1 → Calls Tryz.prog 80 #[.pointer (some ⟨E.en, 0, none⟩), .slice (some g) n cap, .int .i64 0] w' (Wrote E l' x w')) :
    Calls Tryz.prog 50 #[.pointer (some ⟨E.en, 0, none⟩), .iface 81 (.slice (some g) n cap), .int .i64 0] w (Wrote E l (ob false :: x) w) := by
  obtain ⟨c0, c1, c2⟩ := h.cells
  have c2' : w.cell? ⟨E.en, 2, none⟩ = some (.int .u8 1) := by rw [c2, hle]; rfl
  have d1 := cell_alloc c1 (.cells #[.int .u8 0] 5)
  have hcall := first_byte E l ws w (ob false) h (by omega)
  have hbv : byteV (ob false) = .int .u8 0 := rfl
  rw [hbv] at hcall
  have HW := Lib.hid hw
  have hn1 := nil_write
  have hn2 := method_write
  clear h hle c2 hw
  go_enter Tryz.func50, Tryz.ntmps50
  go_wp2_with fail
  refine hcall.mono ?_
  rintro e w1 ⟨rfl, hE, hb⟩
  obtain ⟨e0, _, _⟩ := hE.cells
  have hcall2 := HW.out (l ++ [ob false]) ws w1 hE hb (by simp)
  have H1 := Lib.hid hb
  clear hcall c0 c1 c2' d1 hb hE hbv
  go_wp2_with fail
  refine hcall2.mono ?_
  rintro e w2 ⟨rfl, hE2, hb2⟩
  have H2 := Lib.hid (⟨hE2, H1.out.trans hb2⟩ : _ ∧ _)
  clear hcall2 hE2 hb2 e0
  go_wp2_with fail
  go_ret
  obtain ⟨ws', h5⟩ := H2.out.1
  exact ⟨rfl, ⟨ws', by rw [List.append_cons]; exact h5⟩, H2.out.2⟩

set_option maxRecDepth 100000 in
set_option maxHeartbeats 2000000 in
theorem en_co_true (E : Enr) (g : Addr) (n cap : Nat) (x : By.Bs) (l : By.Bs) (ws : List Value) (w : World) (hle : E.le = true) (h : EncW E w l ws) (hfit0 : l.length + 1 ≤ E.S.cap)
    (hw : ∀ (l' : By.Bs) (ws' : List Value) (w' : World), EncW E w' l' ws' → Below E.B w w' → l'.length = l.length + 1 → Calls Tryz.prog 81 #[.pointer (some ⟨E.en, 0, none⟩), .slice (some g) n cap, .int .i64 0] w' (Wrote E l' x w')) :
    Calls Tryz.prog 50 #[.pointer (some ⟨E.en, 0, none⟩), .iface 83 (.slice (some g) n cap), .int .i64 0] w (Wrote E l (ob true :: x) w) := by
  obtain ⟨c0, c1, c2⟩ := h.cells
  have c2' : w.cell? ⟨E.en, 2, none⟩ = some (.int .u8 0) := by rw [c2, hle]; rfl
  have d1 := cell_alloc c1 (.cells #[.int .u8 1] 5)
  have hcall := first_byte E l ws w (ob true) h (by omega)
  have hbv : byteV (ob true) = .int .u8 1 := rfl
  rw [hbv] at hcall
  have HW := Lib.hid hw
  have hn1 := nil_write
  have hn2 := method_write
  clear h hle c2 hw
  go_enter Tryz.func50, Tryz.ntmps50
  go_wp2_with fail
  refine hcall.mono ?_
  rintro e w1 ⟨rfl, hE, hb⟩
  obtain ⟨e0, _, _⟩ := hE.cells
  have hcall2 := HW.out (l ++ [ob true]) ws w1 hE hb (by simp)
  have H1 := Lib.hid hb
  clear hcall c0 c1 c2' d1 hb hE hbv
  go_wp2_with fail
  refine hcall2.mono ?_
  rintro e w2 ⟨rfl, hE2, hb2⟩
  have H2 := Lib.hid (⟨hE2, H1.out.trans hb2⟩ : _ ∧ _)
  clear hcall2 hE2 hb2 e0
  go_wp2_with fail
  go_ret
  obtain ⟨ws', h5⟩ := H2.out.1
  exact ⟨rfl, ⟨ws', by rw [List.append_cons]; exact h5⟩, H2.out.2⟩

set_option maxRecDepth 100000 in
set_option maxHeartbeats 2000000 in
theorem en_co_false (E : Enr) (g : Addr) (n cap : Nat) (x : By.Bs) (l : By.Bs) (ws : List Value) (w : World) (hle : E.le = false) (h : EncW E w l ws) (hfit0 : l.length + 1 ≤ E.S.cap)
    (hw : ∀ (l' : By.Bs) (ws' : List Value) (w' : World), EncW E w' l' ws' → Below E.B w w' → l'.length = l.length + 1 → Calls Tryz.prog 81 #[.pointer (some ⟨E.en, 0, none⟩), .slice (some g) n cap, .int .i64 0] w' (Wrote E l' x w')) :
    Calls Tryz.prog 50 #[.pointer (some ⟨E.en, 0, none⟩), .iface 83 (.slice (some g) n cap), .int .i64 0] w (Wrote E l (ob false :: x) w) := by
  obtain ⟨c0, c1, c2⟩ := h.cells
  have c2' : w.cell? ⟨E.en, 2, none⟩ = some (.int .u8 1) := by rw [c2, hle]; rfl
  have d1 := cell_alloc c1 (.cells #[.int .u8 0] 5)
  have hcall := first_byte E l ws w (ob false) h (by omega)
  have hbv : byteV (ob false) = .int .u8 0 := rfl
  rw [hbv] at hcall
  have HW := Lib.hid hw
  have hn1 := nil_write
  have hn2 := method_write
  clear h hle c2 hw
  go_enter Tryz.func50, Tryz.ntmps50
  go_wp2_with fail
  refine hcall.mono ?_
  rintro e w1 ⟨rfl, hE, hb⟩
  obtain ⟨e0, _, _⟩ := hE.cells
  have hcall2 := HW.out (l ++ [ob false]) ws w1 hE hb (by simp)
  have H1 := Lib.hid hb
  clear hcall c0 c1 c2' d1 hb hE hbv
  go_wp2_with fail
  refine hcall2.mono ?_
  rintro e w2 ⟨rfl, hE2, hb2⟩
  have H2 := Lib.hid (⟨hE2, H1.out.trans hb2⟩ : _ ∧ _)
  clear hcall2 hE2 hb2 e0
  go_wp2_with fail
  go_ret
  obtain ⟨ws', h5⟩ := H2.out.1
  exact ⟨rfl, ⟨ws', by rw [List.append_cons]; exact h5⟩, H2.out.2⟩

theorem en_mp (E : Enr) (g : Addr) (n cap : Nat) (x : By.Bs) (l : By.Bs) (ws : List Value) (w : World) (h : EncW E w l ws) (hfit0 : l.length + 1 ≤ E.S.cap)
    (hw : ∀ (l' : By.Bs) (ws' : List Value) (w' : World), EncW E w' l' ws' → Below E.B w w' → l'.length = l.length + 1 → Calls Tryz.prog 76 #[.pointer (some ⟨E.en, 0, none⟩), .slice (some g) n cap, .int .i64 0] w' (Wrote E l' x w')) :
    Calls Tryz.prog 50 #[.pointer (some ⟨E.en, 0, none⟩), .iface 77 (.slice (some g) n cap), .int .i64 0] w (Wrote E l (ob E.le :: x) w) := by
  cases hle : E.le
  · exact en_mp_false E g n cap x l ws w hle h hfit0 hw
  · exact en_mp_true E g n cap x l ws w hle h hfit0 hw

theorem en_ml (E : Enr) (g : Addr) (n cap : Nat) (x : By.Bs) (l : By.Bs) (ws : List Value) (w : World) (h : EncW E w l ws) (hfit0 : l.length + 1 ≤ E.S.cap)
    (hw : ∀ (l' : By.Bs) (ws' : List Value) (w' : World), EncW E w' l' ws' → Below E.B w w' → l'.length = l.length + 1 → Calls Tryz.prog 78 #[.pointer (some ⟨E.en, 0, none⟩), .slice (some g) n cap, .int .i64 0] w' (Wrote E l' x w')) :
    Calls Tryz.prog 50 #[.pointer (some ⟨E.en, 0, none⟩), .iface 79 (.slice (some g) n cap), .int .i64 0] w (Wrote E l (ob E.le :: x) w) := by
  cases hle : E.le
  · exact en_ml_false E g n cap x l ws w hle h hfit0 hw
  · exact en_ml_true E g n cap x l ws w hle h hfit0 hw

theorem en_mg (E : Enr) (g : Addr) (n cap : Nat) (x : By.Bs) (l : By.Bs) (ws : List Value) (w : World) (h : EncW E w l ws) (hfit0 : l.length + 1 ≤ E.S.cap)
    (hw : ∀ (l' : By.Bs) (ws' : List Value) (w' : World), EncW E w' l' ws' → Below E.B w w' → l'.length = l.length + 1 → Calls Tryz.prog 80 #[.pointer (some ⟨E.en, 0, none⟩), .slice (some g) n cap, .int .i64 0] w' (Wrote E l' x w')) :
    Calls Tryz.prog 50 #[.pointer (some ⟨E.en, 0, none⟩), .iface 81 (.slice (some g) n cap), .int .i64 0] w (Wrote E l (ob E.le :: x) w) := by
  cases hle : E.le
  · exact en_mg_false E g n cap x l ws w hle h hfit0 hw
  · exact en_mg_true E g n cap x l ws w hle h hfit0 hw

theorem en_co (E : Enr) (g : Addr) (n cap : Nat) (x : By.Bs) (l : By.Bs) (ws : List Value) (w : World) (h : EncW E w l ws) (hfit0 : l.length + 1 ≤ E.S.cap)
    (hw : ∀ (l' : By.Bs) (ws' : List Value) (w' : World), EncW E w' l' ws' → Below E.B w w' → l'.length = l.length + 1 → Calls Tryz.prog 81 #[.pointer (some ⟨E.en, 0, none⟩), .slice (some g) n cap, .int .i64 0] w' (Wrote E l' x w')) :
    Calls Tryz.prog 50 #[.pointer (some ⟨E.en, 0, none⟩), .iface 83 (.slice (some g) n cap), .int .i64 0] w (Wrote E l (ob E.le :: x) w) := by
  cases hle : E.le
  · exact en_co_false E g n cap x l ws w hle h hfit0 hw
  · exact en_co_true E g n cap x l ws w hle h hfit0 hw

theorem encs_flat (le : Bool) : ∀ l : List By.G, By.encs le l = l.flatMap (By.enc le)
  | [] => rfl
  | g :: r => by rw [By.encs, encs_flat le r]; rfl
theorem ob_app (le : Bool) (t : Nat) (x : By.Bs) : ob le :: (By.spell le 4 t ++ x) = By.hd le t ++ x := rfl
theorem en_pt (E : Enr) (p : By.Pt) (l : By.Bs) (ws : List Value) (w : World) (h : EncW E w l ws) (hok : By.OkP p) (hfit : l.length + (By.encP E.le p).length ≤ E.S.cap) :
    Calls Tryz.prog 50 #[.pointer (some ⟨E.en, 0, none⟩), .iface 68 (.agg #[.float .f64 p.1, .float .f64 p.2]), .int .i64 0] w (Wrote E l (By.encP E.le p) w) := by
  rw [By.encP_length] at hfit
  cases hle : E.le
  · rw [← hle]; exact en_pt_false E p l ws w hle h hok hfit
  · rw [← hle]; exact en_pt_true E p l ws w hle h hok hfit
theorem en_ln {E0 : TypeId} (E : Enr) (v : Value) (ps : List By.Pt) (K : Knows) (l : By.Bs) (ws : List Value) (w : World) (h : EncW E w l ws) (hv : rowIs repPt E0 K v ps) (hL : Lies E.B K w) (hok : By.OkL ps) (hn : ps.length ≤ 2147483647) (hfit : l.length + (By.encL E.le ps).length ≤ E.S.cap) :
    Calls Tryz.prog 50 #[.pointer (some ⟨E.en, 0, none⟩), .iface 72 v, .int .i64 0] w (Wrote E l (By.encL E.le ps) w) := by
  rw [By.encL_length] at hfit
  cases hle : E.le
  · rw [← hle]; exact en_ln_false E v ps K l ws w hle h hv hL hok hn (by omega)
  · rw [← hle]; exact en_ln_true E v ps K l ws w hle h hv hL hok hn (by omega)
theorem en_pg {E0 E1 : TypeId} (E : Enr) (v : Value) (pss : List (List By.Pt)) (K : Knows) (l : By.Bs) (ws : List Value) (w : World) (h : EncW E w l ws) (hv : rowIs (repRow repPt E0) E1 K v pss) (hL : Lies E.B K w) (hok : ∀ r ∈ pss, By.OkL r) (hn : pss.length ≤ 2147483647) (hm : ∀ r ∈ pss, r.length ≤ 2147483647) (hfit : l.length + (By.encG E.le pss).length ≤ E.S.cap) :
    Calls Tryz.prog 50 #[.pointer (some ⟨E.en, 0, none⟩), .iface 75 v, .int .i64 0] w (Wrote E l (By.encG E.le pss) w) := by
  rw [By.encG_length] at hfit
  have e := By.flat_rings E.le pss
  cases hle : E.le
  · rw [← hle]; exact en_pg_false E v pss K l ws w hle h hv hL hok hn hm (by omega)
  · rw [← hle]; exact en_pg_true E v pss K l ws w hle h hv hL hok hn hm (by omega)
/-- Encode as it should be, of shapes of a depth. -/
def Encodes (E : Enr) (f : Nat) : Prop := ∀ (x : Value) (g : By.G) (K : Knows) (l : By.Bs) (ws : List Value) (w : World), IsG f K x g → EncW E w l ws → Lies E.B K w → By.Ok g → By.size g ≤ 2147483647 → l.length + (By.enc E.le g).length ≤ E.S.cap → Calls Tryz.prog 50 #[.pointer (some ⟨E.en, 0, none⟩), x, .int .i64 0] w (Wrote E l (By.enc E.le g) w)

theorem oks_mem : ∀ {l : List By.G}, By.Oks l → ∀ a ∈ l, By.Ok a
  | [], _, a, h => by simp at h
  | g :: r, ho, a, h => by
    rcases List.mem_cons.1 h with rfl | h
    · exact ho.1
    · exact oks_mem ho.2 a h

theorem encodes_any (E : Enr) : ∀ f, Encodes E f
  | 0 => fun x g K l ws w h _ _ _ _ _ => h.elim
  | f + 1 => fun x g K l ws w h he hL hok hs hfit => by
    cases g with
    | pt p => obtain ⟨v, rfl, rfl⟩ := h; exact en_pt E p l ws w he hok hfit
    | ln ps => obtain ⟨v, rfl, hv⟩ := h; exact en_ln E v ps K l ws w he hv hL hok (size_ln hs) hfit
    | pg pss => obtain ⟨v, rfl, hv⟩ := h; exact en_pg E v pss K l ws w he hv hL hok.2 (size_pg hs).1 (size_pg hs).2 hfit
    | mp gs =>
      obtain ⟨v, rfl, hv⟩ := h
      obtain ⟨g, cap, rfl, hcap⟩ := RowIs.form hv
      have hsz := size_mp hs
      simp only [By.Ok] at hok
      simp only [By.enc, List.length_append, By.hd_length, By.spell_length] at hfit
      have key := en_mp E ⟨g, 0, none⟩ gs.length cap (By.spell E.le 4 4 ++ (By.spell E.le 4 gs.length ++ gs.flatMap (By.encP E.le))) l ws w he (by omega) (fun l' ws' w' he' hb' hl' => wmp_any E _ gs K _ l' ws' w' he' hv (hL.below hb') (fun a ha y l2 ws2 w2 hy he2 hL2 hf2 => by rw [hy]; exact en_pt E a l2 ws2 w2 he2 (hok.2 a ha) hf2) hsz (by omega))
      rw [ob_app] at key
      skip
      exact key
    | ml gs =>
      obtain ⟨v, rfl, hv⟩ := h
      obtain ⟨g, cap, rfl, hcap⟩ := RowIs.form hv
      have hsz := size_ml hs
      simp only [By.Ok] at hok
      simp only [By.enc, List.length_append, By.hd_length, By.spell_length] at hfit
      have key := en_ml E ⟨g, 0, none⟩ gs.length cap (By.spell E.le 4 5 ++ (By.spell E.le 4 gs.length ++ gs.flatMap (By.encL E.le))) l ws w he (by omega) (fun l' ws' w' he' hb' hl' => wml_any E _ gs K _ l' ws' w' he' hv (hL.below hb') (fun a ha y l2 ws2 w2 hy he2 hL2 hf2 => by obtain ⟨z, rfl, hz⟩ := hy; exact en_ln E z a K l2 ws2 w2 he2 hz hL2 (hok.2 a ha) (hsz.2 a ha) hf2) hsz.1 (by omega))
      rw [ob_app] at key
      skip
      exact key
    | mg gs =>
      obtain ⟨v, rfl, hv⟩ := h
      obtain ⟨g, cap, rfl, hcap⟩ := RowIs.form hv
      have hsz := size_mg hs
      simp only [By.Ok] at hok
      simp only [By.enc, List.length_append, By.hd_length, By.spell_length] at hfit
      have key := en_mg E ⟨g, 0, none⟩ gs.length cap (By.spell E.le 4 6 ++ (By.spell E.le 4 gs.length ++ gs.flatMap (By.encG E.le))) l ws w he (by omega) (fun l' ws' w' he' hb' hl' => wmg_any E _ gs K _ l' ws' w' he' hv (hL.below hb') (fun a ha y l2 ws2 w2 hy he2 hL2 hf2 => by obtain ⟨z, rfl, hz⟩ := hy; exact en_pg E z a K l2 ws2 w2 he2 hz hL2 (hok.2 a ha).2 (hsz.2 a ha).1 (hsz.2 a ha).2 hf2) hsz.1 (by omega))
      rw [ob_app] at key
      skip
      exact key
    | co gs =>
      obtain ⟨v, rfl, hv⟩ := h
      obtain ⟨g, cap, rfl, hcap⟩ := RowIs.form hv
      have hsz := size_co hs
      simp only [By.Ok] at hok
      simp only [By.enc, List.length_append, By.hd_length, By.spell_length, encs_flat] at hfit
      have key := en_co E ⟨g, 0, none⟩ gs.length cap (By.spell E.le 4 7 ++ (By.spell E.le 4 gs.length ++ gs.flatMap (By.enc E.le))) l ws w he (by omega) (fun l' ws' w' he' hb' hl' => wco_any E _ gs K _ l' ws' w' he' hv (hL.below hb') (fun a ha y l2 ws2 w2 hy he2 hL2 hf2 => encodes_any E f y a K l2 ws2 w2 hy he2 hL2 (oks_mem hok.2 a ha) (hsz.2 a ha) hf2) hsz.1 (by omega))
      rw [ob_app] at key
      rw [← encs_flat] at key
      exact key
end Go.Proofs.YtjbjjphgnilhmaaGreatDoor
