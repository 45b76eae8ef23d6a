/- Type assertions on geometries, closed facts. -/
import Derived.Test.YtpbhpplmokdkhaaDoorUt
namespace Go.Proofs.YtpbhpplmokdkhaaDoor
open Go.RowKit Fl

theorem as_ls_pt (v : Value) (w : World) : (Instr.typeAssert (.iface 70 v) 83 69 true).run Tryd.prog w = .ok (.tuple #[.agg #[.float .f64 0, .float .f64 0], .bool false]) w := by kernel_rfl
theorem as_ls_mp (v : Value) (w : World) : (Instr.typeAssert (.iface 70 v) 83 98 true).run Tryd.prog w = .ok (.tuple #[.slice none 0 0, .bool false]) w := by kernel_rfl
theorem as_ls_ls (v : Value) (w : World) : (Instr.typeAssert (.iface 70 v) 83 70 true).run Tryd.prog w = .ok (.tuple #[v, .bool true]) w := by kernel_rfl
theorem as_mls_pt (v : Value) (w : World) : (Instr.typeAssert (.iface 100 v) 83 69 true).run Tryd.prog w = .ok (.tuple #[.agg #[.float .f64 0, .float .f64 0], .bool false]) w := by kernel_rfl
theorem as_mls_mp (v : Value) (w : World) : (Instr.typeAssert (.iface 100 v) 83 98 true).run Tryd.prog w = .ok (.tuple #[.slice none 0 0, .bool false]) w := by kernel_rfl
theorem as_mls_ls (v : Value) (w : World) : (Instr.typeAssert (.iface 100 v) 83 70 true).run Tryd.prog w = .ok (.tuple #[.slice none 0 0, .bool false]) w := by kernel_rfl
theorem as_mls_mls (v : Value) (w : World) : (Instr.typeAssert (.iface 100 v) 83 100 true).run Tryd.prog w = .ok (.tuple #[v, .bool true]) w := by kernel_rfl
theorem as_ring_pt (v : Value) (w : World) : (Instr.typeAssert (.iface 64 v) 83 69 true).run Tryd.prog w = .ok (.tuple #[.agg #[.float .f64 0, .float .f64 0], .bool false]) w := by kernel_rfl
theorem as_ring_mp (v : Value) (w : World) : (Instr.typeAssert (.iface 64 v) 83 98 true).run Tryd.prog w = .ok (.tuple #[.slice none 0 0, .bool false]) w := by kernel_rfl
theorem as_ring_ls (v : Value) (w : World) : (Instr.typeAssert (.iface 64 v) 83 70 true).run Tryd.prog w = .ok (.tuple #[.slice none 0 0, .bool false]) w := by kernel_rfl
theorem as_ring_mls (v : Value) (w : World) : (Instr.typeAssert (.iface 64 v) 83 100 true).run Tryd.prog w = .ok (.tuple #[.slice none 0 0, .bool false]) w := by kernel_rfl
theorem as_ring_ring (v : Value) (w : World) : (Instr.typeAssert (.iface 64 v) 83 64 true).run Tryd.prog w = .ok (.tuple #[v, .bool true]) w := by kernel_rfl
theorem as_poly_pt (v : Value) (w : World) : (Instr.typeAssert (.iface 96 v) 83 69 true).run Tryd.prog w = .ok (.tuple #[.agg #[.float .f64 0, .float .f64 0], .bool false]) w := by kernel_rfl
theorem as_poly_mp (v : Value) (w : World) : (Instr.typeAssert (.iface 96 v) 83 98 true).run Tryd.prog w = .ok (.tuple #[.slice none 0 0, .bool false]) w := by kernel_rfl
theorem as_poly_ls (v : Value) (w : World) : (Instr.typeAssert (.iface 96 v) 83 70 true).run Tryd.prog w = .ok (.tuple #[.slice none 0 0, .bool false]) w := by kernel_rfl
theorem as_poly_mls (v : Value) (w : World) : (Instr.typeAssert (.iface 96 v) 83 100 true).run Tryd.prog w = .ok (.tuple #[.slice none 0 0, .bool false]) w := by kernel_rfl
theorem as_poly_ring (v : Value) (w : World) : (Instr.typeAssert (.iface 96 v) 83 64 true).run Tryd.prog w = .ok (.tuple #[.slice none 0 0, .bool false]) w := by kernel_rfl
theorem as_poly_poly (v : Value) (w : World) : (Instr.typeAssert (.iface 96 v) 83 96 true).run Tryd.prog w = .ok (.tuple #[v, .bool true]) w := by kernel_rfl
end Go.Proofs.YtpbhpplmokdkhaaDoor
