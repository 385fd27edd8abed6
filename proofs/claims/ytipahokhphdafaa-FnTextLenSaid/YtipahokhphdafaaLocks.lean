/- The numbers under which the translation holds package sync's mutex, and that it holds it. -/
import Derived.Test.YtipahokhphdafaaChecked
import Derived.Conc.MuLib
import Derived.KernelRfl
namespace Go.Proofs.Ytipahokhphdafaa
abbrev muLink : Go.Conc.Locks.MuLink := { lock := 60, unlock := 61, ilock := 72, iunlock := 73, lockSlow := 91, unlockSlow := 94, disable := 87, enable := 89, acquire := 90, relMerge := 92, cas32 := 88, add32 := 93, tMutex := 85, tIMutex := 83, tPMutex := 121, tPIMutex := 130, tPI32 := 132, tUP := 134, tNoCopy := 80, tU32 := 81 }
theorem muLib : Go.Conc.Locks.MuLib Try.prog muLink :=
  ⟨Try.func60, Try.func61, Try.func72, Try.func73, Try.func87, Try.func89, Try.func90, Try.func92, Try.func88, Try.func93,
   Try.underlying83, Try.runUnderlying83, Try.sizeOf83, Try.isAgg83, Try.zeroValue83, Try.underlying85, Try.runUnderlying85, Try.sizeOf85, Try.isAgg85, Try.zeroValue85, Try.underlying121, Try.runUnderlying121, Try.sizeOf121, Try.isAgg121, Try.zeroValue121, Try.underlying130, Try.runUnderlying130, Try.sizeOf130, Try.isAgg130, Try.zeroValue130, Try.underlying132, Try.runUnderlying132, Try.sizeOf132, Try.isAgg132, Try.zeroValue132, Try.underlying134, Try.runUnderlying134, Try.sizeOf134, Try.isAgg134, Try.zeroValue134, Try.underlying80, Try.runUnderlying80, Try.sizeOf80, Try.isAgg80, Try.zeroValue80, Try.underlying21, Try.runUnderlying21, Try.sizeOf21, Try.isAgg21, Try.zeroValue21, (by kernel_rfl)⟩
end Go.Proofs.Ytipahokhphdafaa
