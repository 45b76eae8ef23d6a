/- The walk of unmarshalPoint. -/
import Derived.Test.YtjbjjphgnilhmaaGreatDoorBh
import Derived.Laws.ResultCell
set_option linter.unusedVariables false
namespace Go.Proofs.YtjbjjphgnilhmaaGreatDoor
open Go.RowKit
variable {A : Addr → Prop}

@[go_sem] theorem run_store_float {P : Program} {w : World} {a : Addr} {m : Mode} (k : FloatKind) (b : Nat) : (store a (.float k b) m).run P w = stored P w a (.float k b) m := run_store P w a _ m rfl
@[go_sem] theorem setCell_drewN (w : World) (n : Nat) (a : Addr) (v : Value) : (w.drewN n).setCell a v = (w.setCell a v).drewN n := rfl
@[go_sem] theorem alloc_drewN (w : World) (n : Nat) (o : Obj) : (w.drewN n).alloc o = (w.alloc o).drewN n := rfl
theorem call_bits (b : Nat) (w : World) : (callFunc 51 #[.float .f64 b]).run Tryz.prog w = .ok (.value (.int .u64 b)) w := by
  rw [run_callFunc_extern (P := Tryz.prog) (f := 51) (fn := Tryz.f51) (e := Extern.MathFloatBits.float64bits) (by kernel_rfl) (by kernel_rfl) (by kernel_rfl) (by kernel_rfl) (by kernel_rfl)]
  rfl
theorem call_frombits (n : Nat) (w : World) : (callFunc 67 #[.int .u64 (n : Int)]).run Tryz.prog w = .ok (.value (.float .f64 n)) w := by
  rw [run_callFunc_extern (P := Tryz.prog) (f := 67) (fn := Tryz.f67) (e := Extern.MathFloatBits.float64frombits) (by kernel_rfl) (by kernel_rfl) (by kernel_rfl) (by kernel_rfl) (by kernel_rfl)]
  rfl

theorem u64_call (le : Bool) (b off n c : Nat) (l : By.Bs) (w : World) (hl : l.length = n) (hn : 8 ≤ n) (hc : n ≤ c) (hx : BytesAt w b off l) :
    Calls Tryz.prog (if le then 68 else 69) #[.slice (some ⟨b, off, none⟩) n c] w fun e w' => e = .returned (.int .u64 (By.u64 le l)) ∧ ∃ q, w' = w.drewN q := by
  cases le
  · exact be64_call b off n c l w hl hn hc hx
  · exact le64_call b off n c l w hl hn hc hx

set_option maxHeartbeats 1000000 in
theorem upt_le (b off n c : Nat) (l : By.Bs) (w : World) (hl : l.length = n) (hn : 16 ≤ n) (hc : n ≤ c) (hx : BytesAt w b off l) :
    Calls Tryz.prog 42 #[.int .i64 1, .slice (some ⟨b, off, none⟩) n c] w fun e w' => e = .returned (.tuple #[.agg #[.float .f64 (By.u64 true l), .float .f64 (By.u64 true (l.drop 8))], .nilIface]) ∧ Below w.heap.size w w' := by
  have S8 := slice_from 8 hx hl hc
  have g8 : (8 : Int) ≤ n := by omega
  have g8' : 8 ≤ n := by omega
  have gc : ¬ c = 8 := by omega
  have hk := call_frombits
  have HX := Lib.hid hx
  have HS := Lib.hid S8
  have HL := Lib.hid hl
  clear hx S8 hl
  go_enter Tryz.func42, Tryz.ntmps42
  go_wp2_with fail
  refine (le64_call b off n c l _ HL.out (by omega) hc (HX.out.below (((Below.refl _ _).alloc (Nat.le_refl _) _).alloc (by simp) _))).mono ?_
  rintro e w1 ⟨rfl, q, rfl⟩
  go_wp2_with fail
  refine (le64_call b (off + 8) (n - 8) (c - 8) (l.drop 8) _ HS.out.1 (by omega) HS.out.2.1 ?_).mono ?_
  · exact HS.out.2.2.below (below_drewN (((Below.refl _ _).alloc (Nat.le_refl _) _).alloc (by simp) _) _)
  rintro e w1 ⟨rfl, q2, rfl⟩
  go_wp2_with fail
  exact bodyPost_ret (v := .tuple #[.agg #[.float .f64 (By.u64 true l), .float .f64 (By.u64 true (l.drop 8))], .nilIface]) (by simp [results, Tryz.results42, go_sem]) rfl ⟨rfl, below_drewN (((Below.refl _ _).alloc (Nat.le_refl _) _).alloc (by simp) _) _⟩
set_option maxHeartbeats 1000000 in
theorem upt_be (b off n c : Nat) (l : By.Bs) (w : World) (hl : l.length = n) (hn : 16 ≤ n) (hc : n ≤ c) (hx : BytesAt w b off l) :
    Calls Tryz.prog 42 #[.int .i64 0, .slice (some ⟨b, off, none⟩) n c] w fun e w' => e = .returned (.tuple #[.agg #[.float .f64 (By.u64 false l), .float .f64 (By.u64 false (l.drop 8))], .nilIface]) ∧ Below w.heap.size w w' := by
  have S8 := slice_from 8 hx hl hc
  have g8 : (8 : Int) ≤ n := by omega
  have g8' : 8 ≤ n := by omega
  have gc : ¬ c = 8 := by omega
  have hk := call_frombits
  have HX := Lib.hid hx
  have HS := Lib.hid S8
  have HL := Lib.hid hl
  clear hx S8 hl
  go_enter Tryz.func42, Tryz.ntmps42
  go_wp2_with fail
  refine (be64_call b off n c l _ HL.out (by omega) hc (HX.out.below (((Below.refl _ _).alloc (Nat.le_refl _) _).alloc (by simp) _))).mono ?_
  rintro e w1 ⟨rfl, q, rfl⟩
  go_wp2_with fail
  refine (be64_call b (off + 8) (n - 8) (c - 8) (l.drop 8) _ HS.out.1 (by omega) HS.out.2.1 ?_).mono ?_
  · exact HS.out.2.2.below (below_drewN (((Below.refl _ _).alloc (Nat.le_refl _) _).alloc (by simp) _) _)
  rintro e w1 ⟨rfl, q2, rfl⟩
  go_wp2_with fail
  exact bodyPost_ret (v := .tuple #[.agg #[.float .f64 (By.u64 false l), .float .f64 (By.u64 false (l.drop 8))], .nilIface]) (by simp [results, Tryz.results42, go_sem]) rfl ⟨rfl, below_drewN (((Below.refl _ _).alloc (Nat.le_refl _) _).alloc (by simp) _) _⟩

theorem upt_some (le : Bool) (b off n c : Nat) (l : By.Bs) (p : By.Pt) (w : World) (hp : By.uPoint le l = some p) (hl : l.length = n) (hc : n ≤ c) (hx : BytesAt w b off l) :
    Calls Tryz.prog 42 #[.int .i64 (ordI le), .slice (some ⟨b, off, none⟩) n c] w fun e w' => e = .returned (.tuple #[.agg #[.float .f64 p.1, .float .f64 p.2], .nilIface]) ∧ Below w.heap.size w w' := by
  unfold By.uPoint at hp
  split at hp
  · cases hp
  · cases hp
    cases le
    · exact upt_be b off n c l w hl (by omega) hc hx
    · exact upt_le b off n c l w hl (by omega) hc hx
theorem upt_none (le : Bool) (ao : Option Addr) (n c : Nat) (l : By.Bs) (w : World) (hp : By.uPoint le l = none) (he : Errs A w) (hl : l.length = n) (o : Int) :
    Calls Tryz.prog 42 #[.int .i64 o, .slice ao n c] w fun e w' => ∃ a : {a // A a}, e = .returned (.tuple #[.agg #[.float .f64 0, .float .f64 0], .iface 203 (.pointer (some a))]) ∧ Below w.heap.size w w' := by
  have hn : n < 16 := by
    unfold By.uPoint at hp
    split at hp
    · omega
    · cases hp
  obtain ⟨a, ha⟩ := he 2 (by omega) (by omega)
  have ha1 := cell_alloc ha
  clear he hp hl
  go_enter Tryz.func42, Tryz.ntmps42
  go_wp2_with fail
  go_region
  all_goals
    go_wp2_with fail
    exact bodyPost_ret (v := .tuple #[.agg #[.float .f64 0, .float .f64 0], .iface 203 (.pointer (some a))]) (by simp [results, Tryz.results42, go_sem]) rfl ⟨a, rfl, ((Below.refl _ _).alloc (Nat.le_refl _) _).drew⟩
end Go.Proofs.YtjbjjphgnilhmaaGreatDoor
