/- make([]byte, 0, n). -/
import Derived.Test.YtjbjjphgnilhmaaGreatDoorDo
import Derived.Laws.MakeOwn
set_option linter.unusedVariables false
set_option linter.unusedSimpArgs false
namespace Go.Proofs.YtjbjjphgnilhmaaGreatDoor
open Go.RowKit
theorem info5 : (Tryz.prog.info? 5).map (fun i => (i.zero, i.size, i.bytes)) = some (some (.int .u8 0), 1, 1) := by kernel_rfl
theorem make_cap (n : Nat) (hn : n ≤ 2147483647) (w : World) : (Instr.makeSlice 22 (.int .i64 0) (.int .i64 n)).run Tryz.prog w = .ok (.slice (some ⟨w.heap.size, 0, none⟩) 0 n) (w.alloc (.cells (List.replicate n (Value.int .u8 0)).toArray 5)) := by
  obtain ⟨i, hi, hz, hs, hb⟩ := info_parts info5
  have h := run_make (P := Tryz.prog) w 22 5 i (.int .u8 0) Tryz.underlying22 hi hz .i64 .i64 0 n (Int.le_refl _) (by omega) (by rw [hb]; omega) (by omega)
  rw [h]
  have e : madeCells (Value.int .u8 0).cells ((n : Int).toNat * i.size) = (List.replicate n (Value.int .u8 0)).toArray := by
    rw [hs, Nat.mul_one, Int.toNat_natCast]
    apply Array.ext
    · rw [size_madeCells]; simp
    · intro k h1 h2
      have hc : (Value.int IntKind.u8 0).cells = #[.int .u8 0] := rfl
      simp [madeCells, hc, Nat.mod_one]
  rw [e]
  rfl
end Go.Proofs.YtjbjjphgnilhmaaGreatDoor
