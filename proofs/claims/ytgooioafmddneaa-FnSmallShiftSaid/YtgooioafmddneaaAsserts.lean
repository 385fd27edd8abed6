/- What a type assertion answers, for the dynamic types and the cases that the walks come to. -/
import Derived.Test.YtgooioafmddneaaChecked
import Derived.WalkKit
import Derived.KernelRfl
namespace Go.Proofs.Ytgooioafmddneaa
@[go_sem] theorem as_i64_i64 (v : Value) (w : World) : (Instr.typeAssert (.iface 48 v) 36 48 true).run Try.prog w = .ok (.tuple #[v, .bool true]) w := by kernel_rfl
@[go_sem] theorem as_int_i64 (v : Value) (w : World) : (Instr.typeAssert (.iface 51 v) 36 48 true).run Try.prog w = .ok (.tuple #[.int .i64 0, .bool false]) w := by kernel_rfl
@[go_sem] theorem as_int_int (v : Value) (w : World) : (Instr.typeAssert (.iface 51 v) 36 51 true).run Try.prog w = .ok (.tuple #[v, .bool true]) w := by kernel_rfl
@[go_sem] theorem as_i64_unk (v : Value) (w : World) : (Instr.typeAssert (.iface 48 v) 36 54 true).run Try.prog w = .ok (.tuple #[.agg #[], .bool false]) w := by kernel_rfl
@[go_sem] theorem as_int_unk (v : Value) (w : World) : (Instr.typeAssert (.iface 51 v) 36 54 true).run Try.prog w = .ok (.tuple #[.agg #[], .bool false]) w := by kernel_rfl
end Go.Proofs.Ytgooioafmddneaa
