/- What a type assertion answers, for the dynamic types and the cases that the walks come to. -/
import Derived.Test.YtgooioafmddneabGreatDoorChecked
import Derived.WalkKit
import Derived.KernelRfl
namespace Go.Proofs.YtgooioafmddneabGreatDoor
@[go_sem] theorem as_i64_i64 (v : Value) (w : World) : (Instr.typeAssert (.iface 43 v) 40 43 true).run Tryz.prog w = .ok (.tuple #[v, .bool true]) w := by kernel_rfl
@[go_sem] theorem as_int_i64 (v : Value) (w : World) : (Instr.typeAssert (.iface 46 v) 40 43 true).run Tryz.prog w = .ok (.tuple #[.int .i64 0, .bool false]) w := by kernel_rfl
@[go_sem] theorem as_int_int (v : Value) (w : World) : (Instr.typeAssert (.iface 46 v) 40 46 true).run Tryz.prog w = .ok (.tuple #[v, .bool true]) w := by kernel_rfl
@[go_sem] theorem as_i64_unk (v : Value) (w : World) : (Instr.typeAssert (.iface 43 v) 40 57 true).run Tryz.prog w = .ok (.tuple #[.agg #[], .bool false]) w := by kernel_rfl
@[go_sem] theorem as_int_unk (v : Value) (w : World) : (Instr.typeAssert (.iface 46 v) 40 57 true).run Tryz.prog w = .ok (.tuple #[.agg #[], .bool false]) w := by kernel_rfl
end Go.Proofs.YtgooioafmddneabGreatDoor
