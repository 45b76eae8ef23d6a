/- Bytes in memory, and the walks of the readers of numbers: leUint32, beUint32, leUint64, beUint64, unmarshalUint32. -/
import Derived.Test.YtjbjjphgnilhmaaGreatDoorRows
import Derived.Test.YtjbjjphgnilhmaaGreatDoorBy
import Derived.WalkKit
import Derived.WalkSpells
import Derived.WalkLawsBesides
import Derived.Laws.Externs
import Derived.Lib.EndianBits
import Derived.Lib.Hide
import Derived.Lib.Walk
import Derived.RegionTactic
import Derived.Deep.QuietTactic
import Derived.Deep.RegionWith
import Derived.Deep.Draws
import Derived.BigQuiet
set_option linter.unusedVariables false
namespace Go.Proofs.YtjbjjphgnilhmaaGreatDoor
open Go.RowKit

/-- The bytes lie at a place. -/
def BytesAt (w : World) (b off : Nat) (l : By.Bs) : Prop := ∀ i x, l[i]? = some x → w.cell? ⟨b, off + i, none⟩ = some (.int .u8 x.toNat)
theorem BytesAt.drop {w : World} {b off : Nat} {l : By.Bs} (h : BytesAt w b off l) (k : Nat) : BytesAt w b (off + k) (l.drop k) := by
  intro i x hi
  rw [List.getElem?_drop] at hi
  have := h (k + i) x hi
  rw [← Nat.add_assoc] at this
  exact this
theorem BytesAt.lt {w : World} {b off : Nat} {l : By.Bs} (h : BytesAt w b off l) (hne : l ≠ []) : b < w.heap.size := by
  cases l with
  | nil => exact absurd rfl hne
  | cons p ps => exact World.block_lt_of_cell? w ⟨b, _, none⟩ (h 0 p rfl)
theorem BytesAt.later {w w' : World} {b off B : Nat} {l : By.Bs} (h : BytesAt w b off l) (hb : Below B w w') (hB : b < B) : BytesAt w' b off l :=
  fun i p hp => (hb.cell (p := ⟨b, _, none⟩) hB).trans (h i p hp)
theorem BytesAt.below {w w' : World} {b off : Nat} {l : By.Bs} (h : BytesAt w b off l) (hb : Below w.heap.size w w') : BytesAt w' b off l := by
  by_cases hne : l = []
  · subst hne; intro i p hp; simp at hp
  · exact h.later hb (h.lt hne)

theorem below_drewN {B : Nat} {w w' : World} (h : Below B w w') (n : Nat) : Below B w (w'.drewN n) := h.trans ⟨rfl, rfl, rfl, Nat.le_refl _, fun _ _ => rfl⟩
theorem u32_four (le : Bool) (x0 x1 x2 x3 : UInt8) (r : By.Bs) : By.u32 le (x0 :: x1 :: x2 :: x3 :: r) = By.num le [x0, x1, x2, x3] := rfl
theorem four_of (l : By.Bs) (h : 4 ≤ l.length) : ∃ x0 x1 x2 x3 r, l = x0 :: x1 :: x2 :: x3 :: r := by
  match l, h with
  | x0 :: x1 :: x2 :: x3 :: r, _ => exact ⟨x0, x1, x2, x3, r, rfl⟩
theorem u64_split (le : Bool) (l : By.Bs) (h : 8 ≤ l.length) : By.u64 le l = if le then By.u32 le l + By.u32 le (l.drop 4) * 4294967296 else By.u32 le l * 4294967296 + By.u32 le (l.drop 4) := by
  obtain ⟨x0, x1, x2, x3, r, rfl⟩ := four_of l (by omega)
  obtain ⟨x4, x5, x6, x7, r, rfl⟩ := four_of r (by simp at h; omega)
  cases le
  · simp [By.u64, By.u32, By.num, Lib.beNat, Lib.beFrom]; omega
  · simp [By.u64, By.u32, By.num, Lib.leNat]; omega

set_option maxHeartbeats 4000000 in
set_option maxRecDepth 100000 in
theorem le32_call (b off n c : Nat) (l : By.Bs) (w : World) (hl : l.length = n) (hn : 4 ≤ n) (hx : BytesAt w b off l) :
    Calls Tryz.prog 86 #[.slice (some ⟨b, off, none⟩) n c] w fun e w' => e = .returned (.int .u32 (By.u32 true l)) ∧ ∃ q, w' = w.drewN q := by
  obtain ⟨x0, x1, x2, x3, r, rfl⟩ := four_of l (by omega)
  have c0 := hx 0 x0 rfl
  have c1 := hx 1 x1 rfl
  have c2 := hx 2 x2 rfl
  have c3 := hx 3 x3 rfl
  have h0 : x0.toNat < 256 := x0.toNat_lt
  have h1 : x1.toNat < 256 := x1.toNat_lt
  have h2 : x2.toNat < 256 := x2.toNat_lt
  have h3 : x3.toNat < 256 := x3.toNat_lt
  have hv : ((By.u32 true (x0 :: x1 :: x2 :: x3 :: r) : Nat) : Int) = (x0.toNat : Int) + (x1.toNat : Int) * 256 + (x2.toNat : Int) * 65536 + (x3.toNat : Int) * 16777216 := by
    rw [u32_four]
    simp only [By.num, if_true, Lib.leNat]
    push_cast
    omega
  rw [Nat.add_zero] at c0
  clear hx
  have g0 : 0 < n := by omega
  have g1 : (1 : Int) < (n : Int) := by omega
  have g2 : (2 : Int) < (n : Int) := by omega
  have g3 : (3 : Int) < (n : Int) := by omega
  go_enter Tryz.func86, Tryz.ntmps86
  go_wp2
  go_quiet (fail)
  go_wp2
  go_ret
  refine ⟨?_, _, rfl⟩
  have e : bits .or .u32 (bits .or .u32 (bits .or .u32 (x0.toNat : Int) ((x1.toNat : Int) * 256)) ((x2.toNat : Int) * 65536)) ((x3.toNat : Int) * 16777216) = ((By.u32 true (x0 :: x1 :: x2 :: x3 :: r) : Nat) : Int) := by
    simp (disch := omega) only [u32_or8, u32_or16, u32_or24]
    rw [hv]
  exact congrArg (fun z => Ending.returned (.int .u32 z)) e

set_option maxHeartbeats 4000000 in
set_option maxRecDepth 100000 in
theorem be32_call (b off n c : Nat) (l : By.Bs) (w : World) (hl : l.length = n) (hn : 4 ≤ n) (hx : BytesAt w b off l) :
    Calls Tryz.prog 87 #[.slice (some ⟨b, off, none⟩) n c] w fun e w' => e = .returned (.int .u32 (By.u32 false l)) ∧ ∃ q, w' = w.drewN q := by
  obtain ⟨x0, x1, x2, x3, r, rfl⟩ := four_of l (by omega)
  have c0 := hx 0 x0 rfl
  have c1 := hx 1 x1 rfl
  have c2 := hx 2 x2 rfl
  have c3 := hx 3 x3 rfl
  have h0 : x0.toNat < 256 := x0.toNat_lt
  have h1 : x1.toNat < 256 := x1.toNat_lt
  have h2 : x2.toNat < 256 := x2.toNat_lt
  have h3 : x3.toNat < 256 := x3.toNat_lt
  have hv : ((By.u32 false (x0 :: x1 :: x2 :: x3 :: r) : Nat) : Int) = (x3.toNat : Int) + (x2.toNat : Int) * 256 + (x1.toNat : Int) * 65536 + (x0.toNat : Int) * 16777216 := by
    rw [u32_four]
    simp only [By.num, Bool.false_eq_true, if_false, Lib.beNat, Lib.beFrom]
    push_cast
    omega
  rw [Nat.add_zero] at c0
  clear hx
  have g0 : 0 < n := by omega
  have g1 : (1 : Int) < (n : Int) := by omega
  have g2 : (2 : Int) < (n : Int) := by omega
  have g3 : (3 : Int) < (n : Int) := by omega
  go_enter Tryz.func87, Tryz.ntmps87
  go_wp2
  go_quiet (fail)
  go_wp2
  go_ret
  refine ⟨?_, _, rfl⟩
  have e : bits .or .u32 (bits .or .u32 (bits .or .u32 (x3.toNat : Int) ((x2.toNat : Int) * 256)) ((x1.toNat : Int) * 65536)) ((x0.toNat : Int) * 16777216) = ((By.u32 false (x0 :: x1 :: x2 :: x3 :: r) : Nat) : Int) := by
    simp (disch := omega) only [u32_or8, u32_or16, u32_or24]
    rw [hv]
  exact congrArg (fun z => Ending.returned (.int .u32 z)) e
theorem bits_or_comm64 (x y : Int) : bits .or .u64 x y = bits .or .u64 y x := by simp only [bits, BitVec.or_comm]

set_option maxHeartbeats 1000000 in
set_option maxRecDepth 100000 in
theorem le64_call (b off n c : Nat) (l : By.Bs) (w : World) (hl : l.length = n) (hn : 8 ≤ n) (hc : n ≤ c) (hx : BytesAt w b off l) :
    Calls Tryz.prog 68 #[.slice (some ⟨b, off, none⟩) n c] w fun e w' => e = .returned (.int .u64 (By.u64 true l)) ∧ ∃ q, w' = w.drewN q := by
  obtain ⟨x, hx7⟩ : ∃ x, l[7]? = some x := ⟨_, List.getElem?_eq_getElem (by omega)⟩
  have c7 := hx 7 x hx7
  have g7 : (7 : Int) < (n : Int) := by omega
  have g4 : (4 : Int) ≤ (n : Int) := by omega
  have gc : ¬ c = 4 := by omega
  have g4' : 4 ≤ n := by omega
  have hx4 := hx.drop 4
  have e1 := By.u32_lt true l
  have e2 := By.u32_lt true (l.drop 4)
  have hv : ((By.u64 true l : Nat) : Int) = ((By.u32 true l : Nat) : Int) + ((By.u32 true (l.drop 4) : Nat) : Int) * 4294967296 := by
    rw [u64_split _ _ (by omega)]
    simp only [if_true]
    omega
  have HX := Lib.hid hx
  have HX4 := Lib.hid hx4
  have HC := Lib.hid hc
  have HL := Lib.hid hl
  have HV := Lib.hid hv
  clear hx hx4 hx7 hl hv
  go_enter Tryz.func68, Tryz.ntmps68
  go_wp2_with fail
  go_quiet (first
    | ((with_reducible refine Calls.quiet_of (le32_call b off n c l _ HL.out (by omega) ?_)); exact HX.out)
    | ((with_reducible refine Calls.quiet_of (le32_call b (off + 4) (n - 4) (c - 4) (l.drop 4) _ (by rw [List.length_drop, HL.out]) (by omega) ?_)); exact HX4.out))
  go_wp2_with fail
  go_ret
  refine ⟨?_, _, rfl⟩
  have e : bits .or .u64 (((By.u32 true l : Nat) : Int)) (((By.u32 true (l.drop 4) : Nat) : Int) * 4294967296) = ((By.u64 true l : Nat) : Int) := by
    simp (disch := omega) only [u64_or32]
    rw [HV.out]
  exact congrArg (fun z => Ending.returned (.int .u64 z)) e

set_option maxHeartbeats 1000000 in
set_option maxRecDepth 100000 in
theorem be64_call (b off n c : Nat) (l : By.Bs) (w : World) (hl : l.length = n) (hn : 8 ≤ n) (hc : n ≤ c) (hx : BytesAt w b off l) :
    Calls Tryz.prog 69 #[.slice (some ⟨b, off, none⟩) n c] w fun e w' => e = .returned (.int .u64 (By.u64 false l)) ∧ ∃ q, w' = w.drewN q := by
  obtain ⟨x, hx7⟩ : ∃ x, l[7]? = some x := ⟨_, List.getElem?_eq_getElem (by omega)⟩
  have c7 := hx 7 x hx7
  have g7 : (7 : Int) < (n : Int) := by omega
  have g4 : (4 : Int) ≤ (n : Int) := by omega
  have gc : ¬ c = 4 := by omega
  have g4' : 4 ≤ n := by omega
  have hx4 := hx.drop 4
  have e1 := By.u32_lt false l
  have e2 := By.u32_lt false (l.drop 4)
  have hv : ((By.u64 false l : Nat) : Int) = ((By.u32 false (l.drop 4) : Nat) : Int) + ((By.u32 false l : Nat) : Int) * 4294967296 := by
    rw [u64_split _ _ (by omega)]
    simp only [Bool.false_eq_true, if_false]
    omega
  have HX := Lib.hid hx
  have HX4 := Lib.hid hx4
  have HC := Lib.hid hc
  have HL := Lib.hid hl
  have HV := Lib.hid hv
  clear hx hx4 hx7 hl hv
  go_enter Tryz.func69, Tryz.ntmps69
  go_wp2_with fail
  go_quiet (first
    | ((with_reducible refine Calls.quiet_of (be32_call b off n c l _ HL.out (by omega) ?_)); exact HX.out)
    | ((with_reducible refine Calls.quiet_of (be32_call b (off + 4) (n - 4) (c - 4) (l.drop 4) _ (by rw [List.length_drop, HL.out]) (by omega) ?_)); exact HX4.out))
  go_wp2_with fail
  go_ret
  refine ⟨?_, _, rfl⟩
  have e : bits .or .u64 (((By.u32 false l : Nat) : Int) * 4294967296) (((By.u32 false (l.drop 4) : Nat) : Int)) = ((By.u64 false l : Nat) : Int) := by
    rw [bits_or_comm64]; simp (disch := omega) only [u64_or32]
    rw [HV.out]
  exact congrArg (fun z => Ending.returned (.int .u64 z)) e

end Go.Proofs.YtjbjjphgnilhmaaGreatDoor
