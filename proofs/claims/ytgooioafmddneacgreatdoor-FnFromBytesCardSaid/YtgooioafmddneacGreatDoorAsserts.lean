/- What a type assertion answers, for the dynamic types and the cases that the walks come to. -/
import Derived.Test.YtgooioafmddneacGreatDoorChecked
import Derived.WalkKit
import Derived.KernelRfl
namespace Go.Proofs.YtgooioafmddneacGreatDoor
@[go_sem] theorem as_i64_i64 (v : Value) (w : World) : (Instr.typeAssert (.iface 85 v) 42 85 true).run Tryz.prog w = .ok (.tuple #[v, .bool true]) w := by kernel_rfl
@[go_sem] theorem as_int_i64 (v : Value) (w : World) : (Instr.typeAssert (.iface 87 v) 42 85 true).run Tryz.prog w = .ok (.tuple #[.int .i64 0, .bool false]) w := by kernel_rfl
@[go_sem] theorem as_int_int (v : Value) (w : World) : (Instr.typeAssert (.iface 87 v) 42 87 true).run Tryz.prog w = .ok (.tuple #[v, .bool true]) w := by kernel_rfl
@[go_sem] theorem as_i64_unk (v : Value) (w : World) : (Instr.typeAssert (.iface 85 v) 42 69 true).run Tryz.prog w = .ok (.tuple #[.agg #[], .bool false]) w := by kernel_rfl
@[go_sem] theorem as_int_unk (v : Value) (w : World) : (Instr.typeAssert (.iface 87 v) 42 69 true).run Tryz.prog w = .ok (.tuple #[.agg #[], .bool false]) w := by kernel_rfl
end Go.Proofs.YtgooioafmddneacGreatDoor
