/- Type assertions on shapes of the package: closed facts. -/
import Derived.Test.YtjbjjphgnilhmaaGreatDoorRows
import Derived.WalkKit
namespace Go.Proofs.YtjbjjphgnilhmaaGreatDoor

@[go_sem] theorem ta_68_68 (v : Value) (w : World) : (Instr.typeAssert (.iface 68 v) 39 68 true).run Tryz.prog w = .ok (.tuple #[v, .bool true]) w := by kernel_rfl
@[go_sem] theorem ta_68_72 (v : Value) (w : World) : (Instr.typeAssert (.iface 68 v) 39 72 true).run Tryz.prog w = .ok (.tuple #[.slice none 0 0, .bool false]) w := by kernel_rfl
@[go_sem] theorem ta_68_75 (v : Value) (w : World) : (Instr.typeAssert (.iface 68 v) 39 75 true).run Tryz.prog w = .ok (.tuple #[.slice none 0 0, .bool false]) w := by kernel_rfl
@[go_sem] theorem ta_68_77 (v : Value) (w : World) : (Instr.typeAssert (.iface 68 v) 39 77 true).run Tryz.prog w = .ok (.tuple #[.slice none 0 0, .bool false]) w := by kernel_rfl
@[go_sem] theorem ta_68_79 (v : Value) (w : World) : (Instr.typeAssert (.iface 68 v) 39 79 true).run Tryz.prog w = .ok (.tuple #[.slice none 0 0, .bool false]) w := by kernel_rfl
@[go_sem] theorem ta_68_81 (v : Value) (w : World) : (Instr.typeAssert (.iface 68 v) 39 81 true).run Tryz.prog w = .ok (.tuple #[.slice none 0 0, .bool false]) w := by kernel_rfl
@[go_sem] theorem ta_68_83 (v : Value) (w : World) : (Instr.typeAssert (.iface 68 v) 39 83 true).run Tryz.prog w = .ok (.tuple #[.slice none 0 0, .bool false]) w := by kernel_rfl
@[go_sem] theorem ta_68_127 (v : Value) (w : World) : (Instr.typeAssert (.iface 68 v) 39 127 true).run Tryz.prog w = .ok (.tuple #[.slice none 0 0, .bool false]) w := by kernel_rfl
@[go_sem] theorem ta_68_178 (v : Value) (w : World) : (Instr.typeAssert (.iface 68 v) 39 178 true).run Tryz.prog w = .ok (.tuple #[.agg #[.float .f64 0, .float .f64 0, .float .f64 0, .float .f64 0], .bool false]) w := by kernel_rfl
@[go_sem] theorem ta_72_68 (v : Value) (w : World) : (Instr.typeAssert (.iface 72 v) 39 68 true).run Tryz.prog w = .ok (.tuple #[.agg #[.float .f64 0, .float .f64 0], .bool false]) w := by kernel_rfl
@[go_sem] theorem ta_72_72 (v : Value) (w : World) : (Instr.typeAssert (.iface 72 v) 39 72 true).run Tryz.prog w = .ok (.tuple #[v, .bool true]) w := by kernel_rfl
@[go_sem] theorem ta_72_75 (v : Value) (w : World) : (Instr.typeAssert (.iface 72 v) 39 75 true).run Tryz.prog w = .ok (.tuple #[.slice none 0 0, .bool false]) w := by kernel_rfl
@[go_sem] theorem ta_72_77 (v : Value) (w : World) : (Instr.typeAssert (.iface 72 v) 39 77 true).run Tryz.prog w = .ok (.tuple #[.slice none 0 0, .bool false]) w := by kernel_rfl
@[go_sem] theorem ta_72_79 (v : Value) (w : World) : (Instr.typeAssert (.iface 72 v) 39 79 true).run Tryz.prog w = .ok (.tuple #[.slice none 0 0, .bool false]) w := by kernel_rfl
@[go_sem] theorem ta_72_81 (v : Value) (w : World) : (Instr.typeAssert (.iface 72 v) 39 81 true).run Tryz.prog w = .ok (.tuple #[.slice none 0 0, .bool false]) w := by kernel_rfl
@[go_sem] theorem ta_72_83 (v : Value) (w : World) : (Instr.typeAssert (.iface 72 v) 39 83 true).run Tryz.prog w = .ok (.tuple #[.slice none 0 0, .bool false]) w := by kernel_rfl
@[go_sem] theorem ta_72_127 (v : Value) (w : World) : (Instr.typeAssert (.iface 72 v) 39 127 true).run Tryz.prog w = .ok (.tuple #[.slice none 0 0, .bool false]) w := by kernel_rfl
@[go_sem] theorem ta_72_178 (v : Value) (w : World) : (Instr.typeAssert (.iface 72 v) 39 178 true).run Tryz.prog w = .ok (.tuple #[.agg #[.float .f64 0, .float .f64 0, .float .f64 0, .float .f64 0], .bool false]) w := by kernel_rfl
@[go_sem] theorem ta_75_68 (v : Value) (w : World) : (Instr.typeAssert (.iface 75 v) 39 68 true).run Tryz.prog w = .ok (.tuple #[.agg #[.float .f64 0, .float .f64 0], .bool false]) w := by kernel_rfl
@[go_sem] theorem ta_75_72 (v : Value) (w : World) : (Instr.typeAssert (.iface 75 v) 39 72 true).run Tryz.prog w = .ok (.tuple #[.slice none 0 0, .bool false]) w := by kernel_rfl
@[go_sem] theorem ta_75_75 (v : Value) (w : World) : (Instr.typeAssert (.iface 75 v) 39 75 true).run Tryz.prog w = .ok (.tuple #[v, .bool true]) w := by kernel_rfl
@[go_sem] theorem ta_75_77 (v : Value) (w : World) : (Instr.typeAssert (.iface 75 v) 39 77 true).run Tryz.prog w = .ok (.tuple #[.slice none 0 0, .bool false]) w := by kernel_rfl
@[go_sem] theorem ta_75_79 (v : Value) (w : World) : (Instr.typeAssert (.iface 75 v) 39 79 true).run Tryz.prog w = .ok (.tuple #[.slice none 0 0, .bool false]) w := by kernel_rfl
@[go_sem] theorem ta_75_81 (v : Value) (w : World) : (Instr.typeAssert (.iface 75 v) 39 81 true).run Tryz.prog w = .ok (.tuple #[.slice none 0 0, .bool false]) w := by kernel_rfl
@[go_sem] theorem ta_75_83 (v : Value) (w : World) : (Instr.typeAssert (.iface 75 v) 39 83 true).run Tryz.prog w = .ok (.tuple #[.slice none 0 0, .bool false]) w := by kernel_rfl
@[go_sem] theorem ta_75_127 (v : Value) (w : World) : (Instr.typeAssert (.iface 75 v) 39 127 true).run Tryz.prog w = .ok (.tuple #[.slice none 0 0, .bool false]) w := by kernel_rfl
@[go_sem] theorem ta_75_178 (v : Value) (w : World) : (Instr.typeAssert (.iface 75 v) 39 178 true).run Tryz.prog w = .ok (.tuple #[.agg #[.float .f64 0, .float .f64 0, .float .f64 0, .float .f64 0], .bool false]) w := by kernel_rfl
@[go_sem] theorem ta_77_68 (v : Value) (w : World) : (Instr.typeAssert (.iface 77 v) 39 68 true).run Tryz.prog w = .ok (.tuple #[.agg #[.float .f64 0, .float .f64 0], .bool false]) w := by kernel_rfl
@[go_sem] theorem ta_77_72 (v : Value) (w : World) : (Instr.typeAssert (.iface 77 v) 39 72 true).run Tryz.prog w = .ok (.tuple #[.slice none 0 0, .bool false]) w := by kernel_rfl
@[go_sem] theorem ta_77_75 (v : Value) (w : World) : (Instr.typeAssert (.iface 77 v) 39 75 true).run Tryz.prog w = .ok (.tuple #[.slice none 0 0, .bool false]) w := by kernel_rfl
@[go_sem] theorem ta_77_77 (v : Value) (w : World) : (Instr.typeAssert (.iface 77 v) 39 77 true).run Tryz.prog w = .ok (.tuple #[v, .bool true]) w := by kernel_rfl
@[go_sem] theorem ta_77_79 (v : Value) (w : World) : (Instr.typeAssert (.iface 77 v) 39 79 true).run Tryz.prog w = .ok (.tuple #[.slice none 0 0, .bool false]) w := by kernel_rfl
@[go_sem] theorem ta_77_81 (v : Value) (w : World) : (Instr.typeAssert (.iface 77 v) 39 81 true).run Tryz.prog w = .ok (.tuple #[.slice none 0 0, .bool false]) w := by kernel_rfl
@[go_sem] theorem ta_77_83 (v : Value) (w : World) : (Instr.typeAssert (.iface 77 v) 39 83 true).run Tryz.prog w = .ok (.tuple #[.slice none 0 0, .bool false]) w := by kernel_rfl
@[go_sem] theorem ta_77_127 (v : Value) (w : World) : (Instr.typeAssert (.iface 77 v) 39 127 true).run Tryz.prog w = .ok (.tuple #[.slice none 0 0, .bool false]) w := by kernel_rfl
@[go_sem] theorem ta_77_178 (v : Value) (w : World) : (Instr.typeAssert (.iface 77 v) 39 178 true).run Tryz.prog w = .ok (.tuple #[.agg #[.float .f64 0, .float .f64 0, .float .f64 0, .float .f64 0], .bool false]) w := by kernel_rfl
@[go_sem] theorem ta_79_68 (v : Value) (w : World) : (Instr.typeAssert (.iface 79 v) 39 68 true).run Tryz.prog w = .ok (.tuple #[.agg #[.float .f64 0, .float .f64 0], .bool false]) w := by kernel_rfl
@[go_sem] theorem ta_79_72 (v : Value) (w : World) : (Instr.typeAssert (.iface 79 v) 39 72 true).run Tryz.prog w = .ok (.tuple #[.slice none 0 0, .bool false]) w := by kernel_rfl
@[go_sem] theorem ta_79_75 (v : Value) (w : World) : (Instr.typeAssert (.iface 79 v) 39 75 true).run Tryz.prog w = .ok (.tuple #[.slice none 0 0, .bool false]) w := by kernel_rfl
@[go_sem] theorem ta_79_77 (v : Value) (w : World) : (Instr.typeAssert (.iface 79 v) 39 77 true).run Tryz.prog w = .ok (.tuple #[.slice none 0 0, .bool false]) w := by kernel_rfl
@[go_sem] theorem ta_79_79 (v : Value) (w : World) : (Instr.typeAssert (.iface 79 v) 39 79 true).run Tryz.prog w = .ok (.tuple #[v, .bool true]) w := by kernel_rfl
@[go_sem] theorem ta_79_81 (v : Value) (w : World) : (Instr.typeAssert (.iface 79 v) 39 81 true).run Tryz.prog w = .ok (.tuple #[.slice none 0 0, .bool false]) w := by kernel_rfl
@[go_sem] theorem ta_79_83 (v : Value) (w : World) : (Instr.typeAssert (.iface 79 v) 39 83 true).run Tryz.prog w = .ok (.tuple #[.slice none 0 0, .bool false]) w := by kernel_rfl
@[go_sem] theorem ta_79_127 (v : Value) (w : World) : (Instr.typeAssert (.iface 79 v) 39 127 true).run Tryz.prog w = .ok (.tuple #[.slice none 0 0, .bool false]) w := by kernel_rfl
@[go_sem] theorem ta_79_178 (v : Value) (w : World) : (Instr.typeAssert (.iface 79 v) 39 178 true).run Tryz.prog w = .ok (.tuple #[.agg #[.float .f64 0, .float .f64 0, .float .f64 0, .float .f64 0], .bool false]) w := by kernel_rfl
@[go_sem] theorem ta_81_68 (v : Value) (w : World) : (Instr.typeAssert (.iface 81 v) 39 68 true).run Tryz.prog w = .ok (.tuple #[.agg #[.float .f64 0, .float .f64 0], .bool false]) w := by kernel_rfl
@[go_sem] theorem ta_81_72 (v : Value) (w : World) : (Instr.typeAssert (.iface 81 v) 39 72 true).run Tryz.prog w = .ok (.tuple #[.slice none 0 0, .bool false]) w := by kernel_rfl
@[go_sem] theorem ta_81_75 (v : Value) (w : World) : (Instr.typeAssert (.iface 81 v) 39 75 true).run Tryz.prog w = .ok (.tuple #[.slice none 0 0, .bool false]) w := by kernel_rfl
@[go_sem] theorem ta_81_77 (v : Value) (w : World) : (Instr.typeAssert (.iface 81 v) 39 77 true).run Tryz.prog w = .ok (.tuple #[.slice none 0 0, .bool false]) w := by kernel_rfl
@[go_sem] theorem ta_81_79 (v : Value) (w : World) : (Instr.typeAssert (.iface 81 v) 39 79 true).run Tryz.prog w = .ok (.tuple #[.slice none 0 0, .bool false]) w := by kernel_rfl
@[go_sem] theorem ta_81_81 (v : Value) (w : World) : (Instr.typeAssert (.iface 81 v) 39 81 true).run Tryz.prog w = .ok (.tuple #[v, .bool true]) w := by kernel_rfl
@[go_sem] theorem ta_81_83 (v : Value) (w : World) : (Instr.typeAssert (.iface 81 v) 39 83 true).run Tryz.prog w = .ok (.tuple #[.slice none 0 0, .bool false]) w := by kernel_rfl
@[go_sem] theorem ta_81_127 (v : Value) (w : World) : (Instr.typeAssert (.iface 81 v) 39 127 true).run Tryz.prog w = .ok (.tuple #[.slice none 0 0, .bool false]) w := by kernel_rfl
@[go_sem] theorem ta_81_178 (v : Value) (w : World) : (Instr.typeAssert (.iface 81 v) 39 178 true).run Tryz.prog w = .ok (.tuple #[.agg #[.float .f64 0, .float .f64 0, .float .f64 0, .float .f64 0], .bool false]) w := by kernel_rfl
@[go_sem] theorem ta_83_68 (v : Value) (w : World) : (Instr.typeAssert (.iface 83 v) 39 68 true).run Tryz.prog w = .ok (.tuple #[.agg #[.float .f64 0, .float .f64 0], .bool false]) w := by kernel_rfl
@[go_sem] theorem ta_83_72 (v : Value) (w : World) : (Instr.typeAssert (.iface 83 v) 39 72 true).run Tryz.prog w = .ok (.tuple #[.slice none 0 0, .bool false]) w := by kernel_rfl
@[go_sem] theorem ta_83_75 (v : Value) (w : World) : (Instr.typeAssert (.iface 83 v) 39 75 true).run Tryz.prog w = .ok (.tuple #[.slice none 0 0, .bool false]) w := by kernel_rfl
@[go_sem] theorem ta_83_77 (v : Value) (w : World) : (Instr.typeAssert (.iface 83 v) 39 77 true).run Tryz.prog w = .ok (.tuple #[.slice none 0 0, .bool false]) w := by kernel_rfl
@[go_sem] theorem ta_83_79 (v : Value) (w : World) : (Instr.typeAssert (.iface 83 v) 39 79 true).run Tryz.prog w = .ok (.tuple #[.slice none 0 0, .bool false]) w := by kernel_rfl
@[go_sem] theorem ta_83_81 (v : Value) (w : World) : (Instr.typeAssert (.iface 83 v) 39 81 true).run Tryz.prog w = .ok (.tuple #[.slice none 0 0, .bool false]) w := by kernel_rfl
@[go_sem] theorem ta_83_83 (v : Value) (w : World) : (Instr.typeAssert (.iface 83 v) 39 83 true).run Tryz.prog w = .ok (.tuple #[v, .bool true]) w := by kernel_rfl
@[go_sem] theorem ta_83_127 (v : Value) (w : World) : (Instr.typeAssert (.iface 83 v) 39 127 true).run Tryz.prog w = .ok (.tuple #[.slice none 0 0, .bool false]) w := by kernel_rfl
@[go_sem] theorem ta_83_178 (v : Value) (w : World) : (Instr.typeAssert (.iface 83 v) 39 178 true).run Tryz.prog w = .ok (.tuple #[.agg #[.float .f64 0, .float .f64 0, .float .f64 0, .float .f64 0], .bool false]) w := by kernel_rfl
end Go.Proofs.YtjbjjphgnilhmaaGreatDoor
