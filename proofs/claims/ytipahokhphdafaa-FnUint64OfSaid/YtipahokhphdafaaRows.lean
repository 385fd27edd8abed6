/-
  No cell of these rows narrows 'for every input' (looked for: loops, veiled, ifaces, maps, wideKeys, modest, calm, conditions, laid).
  DERIVED. THE GIVEN ROWS OF THIS SEAT. 8 by the template 'for every input the law returns true; each argument reads behind the call as it read before'; 0 by the template 'total and deterministic' (their statements: YtipahokhphdafaaTotals.lean).
  GIVEN WITH THE SEED: the statements are not yours to turn. If you find one false, say at which input.
  Laid BY PROGRAM, IN A SANDBOX (cutbox-rows.mjs): the forced cells as the released guide's own fill.sh prints them over the translation 091984dbfd123cc1… (all of the seat's roots in one cut). By AI agents, Wed Nov 11 2026. No macro, syntax, notation, axiom, sorry.
-/
import Derived.Test.YtipahokhphdafaaChecked
import GoSem.Claim
import GoSem.ClaimJoined
import GoSem.ClaimMapViews
import Derived.JoinedTies
import Derived.KernelRfl
namespace Go.Proofs.Ytipahokhphdafaa
/- THE CELL 'sum', in the pinned program and in every row, IS THE sha256 OF THE DUMP (.gsa) THAT YtipahokhphdafaaProg.lean LOADS. Nothing in Lean hashes anything: it is a label: what it is worth is what the hold of that sum in a sandbox is worth. -/
noncomputable def Try.pinned : Pinned := { name := "ytipahokhphdafaa", sum := "091984dbfd123cc1426762d6b8973561a074a470bac09a32ac0e97bd48af9b6b", checked := Try.checked }
namespace Rows
def none {H : Type} : Left H := { results := [], args := [] }

/-- 'laws.FnSmallUint64': WHATEVER THE INPUT: true; the input reads as it did. -/
def fnSmallUint64Spec : ChangeSpec := { name := "fnSmallUint64", fn := fun _ => fun
  | [d] => { results := [.lit (.bool true)], args := [d] }
  | _ => none }
def fnSmallUint64Row : OpenClaim := { program := "ytipahokhphdafaa", sum := "091984dbfd123cc1426762d6b8973561a074a470bac09a32ac0e97bd48af9b6b", func := "loop.example/pub-g03237/laws.FnSmallUint64", spec := "fnSmallUint64", apart := false }
def FnSmallUint64Said : Prop := fnSmallUint64Row.holds Try.pinned (OpenSpec.ofChange fnSmallUint64Spec)

/-- ITS FALSE NEIGHBOUR: 'it returns false'. Refute it at one input. -/
def fnSmallUint64Wrong : ChangeSpec := { name := "fnSmallUint64", fn := fun _ => fun
  | [d] => { results := [.lit (.bool false)], args := [d] }
  | _ => none }
def FnSmallUint64WrongFalsely : Prop := fnSmallUint64Row.holds Try.pinned (OpenSpec.ofChange fnSmallUint64Wrong)

/-- 'laws.FnTextLen': WHATEVER THE INPUT: true; the input reads as it did. -/
def fnTextLenSpec : ChangeSpec := { name := "fnTextLen", fn := fun _ => fun
  | [d] => { results := [.lit (.bool true)], args := [d] }
  | _ => none }
def fnTextLenRow : OpenClaim := { program := "ytipahokhphdafaa", sum := "091984dbfd123cc1426762d6b8973561a074a470bac09a32ac0e97bd48af9b6b", func := "loop.example/pub-g03237/laws.FnTextLen", spec := "fnTextLen", inPlace := ["(*internal/sync.Mutex).Lock", "internal/race.Disable", "sync/atomic.CompareAndSwapInt32", "internal/race.Enable", "internal/race.Acquire", "(*internal/sync.Mutex).lockSlow", "internal/sync.runtime_canSpin", "internal/sync.runtime_doSpin", "internal/sync.throw", "internal/sync.runtime_nanotime", "internal/sync.runtime_SemacquireMutex", "sync/atomic.AddInt32", "(*internal/sync.Mutex).Unlock", "internal/race.ReleaseMerge", "(*internal/sync.Mutex).unlockSlow", "internal/sync.fatal", "internal/sync.runtime_Semrelease"], recurses := true, apart := false }
def FnTextLenSaid : Prop := fnTextLenRow.holds Try.pinned (OpenSpec.ofChange fnTextLenSpec)

/-- ITS FALSE NEIGHBOUR: 'it returns false'. Refute it at one input. -/
def fnTextLenWrong : ChangeSpec := { name := "fnTextLen", fn := fun _ => fun
  | [d] => { results := [.lit (.bool false)], args := [d] }
  | _ => none }
def FnTextLenWrongFalsely : Prop := fnTextLenRow.holds Try.pinned (OpenSpec.ofChange fnTextLenWrong)

/-- 'laws.FnSmallBitLen': WHATEVER THE INPUT: true; the input reads as it did. -/
def fnSmallBitLenSpec : ChangeSpec := { name := "fnSmallBitLen", fn := fun _ => fun
  | [d] => { results := [.lit (.bool true)], args := [d] }
  | _ => none }
def fnSmallBitLenRow : OpenClaim := { program := "ytipahokhphdafaa", sum := "091984dbfd123cc1426762d6b8973561a074a470bac09a32ac0e97bd48af9b6b", func := "loop.example/pub-g03237/laws.FnSmallBitLen", spec := "fnSmallBitLen", apart := false }
def FnSmallBitLenSaid : Prop := fnSmallBitLenRow.holds Try.pinned (OpenSpec.ofChange fnSmallBitLenSpec)

/-- ITS FALSE NEIGHBOUR: 'it returns false'. Refute it at one input. -/
def fnSmallBitLenWrong : ChangeSpec := { name := "fnSmallBitLen", fn := fun _ => fun
  | [d] => { results := [.lit (.bool false)], args := [d] }
  | _ => none }
def FnSmallBitLenWrongFalsely : Prop := fnSmallBitLenRow.holds Try.pinned (OpenSpec.ofChange fnSmallBitLenWrong)

/-- 'laws.FnKindOf': WHATEVER THE INPUT: true; the input reads as it did. -/
def fnKindOfSpec : ChangeSpec := { name := "fnKindOf", fn := fun _ => fun
  | [d] => { results := [.lit (.bool true)], args := [d] }
  | _ => none }
def fnKindOfRow : OpenClaim := { program := "ytipahokhphdafaa", sum := "091984dbfd123cc1426762d6b8973561a074a470bac09a32ac0e97bd48af9b6b", func := "loop.example/pub-g03237/laws.FnKindOf", spec := "fnKindOf", unfollowed := true, recurses := true, apart := false }
def FnKindOfSaid : Prop := fnKindOfRow.holds Try.pinned (OpenSpec.ofChange fnKindOfSpec)

/-- ITS FALSE NEIGHBOUR: 'it returns false'. Refute it at one input. -/
def fnKindOfWrong : ChangeSpec := { name := "fnKindOf", fn := fun _ => fun
  | [d] => { results := [.lit (.bool false)], args := [d] }
  | _ => none }
def FnKindOfWrongFalsely : Prop := fnKindOfRow.holds Try.pinned (OpenSpec.ofChange fnKindOfWrong)

/-- 'laws.FnUint64Of': WHATEVER THE INPUT: true; the input reads as it did. -/
def fnUint64OfSpec : ChangeSpec := { name := "fnUint64Of", fn := fun _ => fun
  | [d] => { results := [.lit (.bool true)], args := [d] }
  | _ => none }
def fnUint64OfRow : OpenClaim := { program := "ytipahokhphdafaa", sum := "091984dbfd123cc1426762d6b8973561a074a470bac09a32ac0e97bd48af9b6b", func := "loop.example/pub-g03237/laws.FnUint64Of", spec := "fnUint64Of", apart := false }
def FnUint64OfSaid : Prop := fnUint64OfRow.holds Try.pinned (OpenSpec.ofChange fnUint64OfSpec)

/-- ITS FALSE NEIGHBOUR: 'it returns false'. Refute it at one input. -/
def fnUint64OfWrong : ChangeSpec := { name := "fnUint64Of", fn := fun _ => fun
  | [d] => { results := [.lit (.bool false)], args := [d] }
  | _ => none }
def FnUint64OfWrongFalsely : Prop := fnUint64OfRow.holds Try.pinned (OpenSpec.ofChange fnUint64OfWrong)

/-- 'laws.FnSignOf': WHATEVER THE INPUT: true; the input reads as it did. -/
def fnSignOfSpec : ChangeSpec := { name := "fnSignOf", fn := fun _ => fun
  | [d] => { results := [.lit (.bool true)], args := [d] }
  | _ => none }
def fnSignOfRow : OpenClaim := { program := "ytipahokhphdafaa", sum := "091984dbfd123cc1426762d6b8973561a074a470bac09a32ac0e97bd48af9b6b", func := "loop.example/pub-g03237/laws.FnSignOf", spec := "fnSignOf", recurses := true, apart := false }
def FnSignOfSaid : Prop := fnSignOfRow.holds Try.pinned (OpenSpec.ofChange fnSignOfSpec)

/-- ITS FALSE NEIGHBOUR: 'it returns false'. Refute it at one input. -/
def fnSignOfWrong : ChangeSpec := { name := "fnSignOf", fn := fun _ => fun
  | [d] => { results := [.lit (.bool false)], args := [d] }
  | _ => none }
def FnSignOfWrongFalsely : Prop := fnSignOfRow.holds Try.pinned (OpenSpec.ofChange fnSignOfWrong)

/-- 'laws.FnLenOf': WHATEVER THE INPUT: true; the input reads as it did. -/
def fnLenOfSpec : ChangeSpec := { name := "fnLenOf", fn := fun _ => fun
  | [d] => { results := [.lit (.bool true)], args := [d] }
  | _ => none }
def fnLenOfRow : OpenClaim := { program := "ytipahokhphdafaa", sum := "091984dbfd123cc1426762d6b8973561a074a470bac09a32ac0e97bd48af9b6b", func := "loop.example/pub-g03237/laws.FnLenOf", spec := "fnLenOf", apart := false }
def FnLenOfSaid : Prop := fnLenOfRow.holds Try.pinned (OpenSpec.ofChange fnLenOfSpec)

/-- ITS FALSE NEIGHBOUR: 'it returns false'. Refute it at one input. -/
def fnLenOfWrong : ChangeSpec := { name := "fnLenOf", fn := fun _ => fun
  | [d] => { results := [.lit (.bool false)], args := [d] }
  | _ => none }
def FnLenOfWrongFalsely : Prop := fnLenOfRow.holds Try.pinned (OpenSpec.ofChange fnLenOfWrong)

/-- 'laws.FnSmallShift': WHATEVER THE INPUT: true; the input reads as it did. -/
def fnSmallShiftSpec : ChangeSpec := { name := "fnSmallShift", fn := fun _ => fun
  | [d1, d2, d3] => { results := [.lit (.bool true)], args := [d1, d2, d3] }
  | _ => none }
def fnSmallShiftRow : OpenClaim := { program := "ytipahokhphdafaa", sum := "091984dbfd123cc1426762d6b8973561a074a470bac09a32ac0e97bd48af9b6b", func := "loop.example/pub-g03237/laws.FnSmallShift", spec := "fnSmallShift", inPlace := ["math/bits.Sub64", "math/bits.Add64"], recurses := true, apart := false }
def FnSmallShiftSaid : Prop := fnSmallShiftRow.holds Try.pinned (OpenSpec.ofChange fnSmallShiftSpec)

/-- ITS FALSE NEIGHBOUR: 'it returns false'. Refute it at one input. -/
def fnSmallShiftWrong : ChangeSpec := { name := "fnSmallShift", fn := fun _ => fun
  | [d1, d2, d3] => { results := [.lit (.bool false)], args := [d1, d2, d3] }
  | _ => none }
def FnSmallShiftWrongFalsely : Prop := fnSmallShiftRow.holds Try.pinned (OpenSpec.ofChange fnSmallShiftWrong)

/- THE SECOND FORM. 'bulk': how many values and letters a reading holds, each counted each time it is reached (what is shared counts as often as it is met; a slice's spare places count too). A statement '..UptoSaid' is the law's where the arguments, and the package variables that the reading takes, are together of bulk at most 1048576: NARROWER than '..Said'. Prove '..Said' where nothing that the law and all that it calls make is longer than what came in: it says more and counts as full. Else prove '..UptoSaid'. A law counts once. -/
mutual
def uptoBulk {H : Type} : DataW H → Nat
  | .lit (.string bytes) => bytes.length + 1
  | .lit _ => 1
  | .nil => 1
  | .ptr d => uptoBulk d + 1
  | .slice elems spare => uptoBulkAll elems + uptoBulkAll spare + 1
  | .agg parts => uptoBulkAll parts + 1
  | .iface _ d => uptoBulk d + 1
  | .map entries => uptoBulkEntries entries + 1
  | .held _ => 1
def uptoBulkAll {H : Type} : List (DataW H) → Nat
  | [] => 0
  | d :: r => uptoBulk d + uptoBulkAll r
def uptoBulkEntries {H : Type} : List (Lit × DataW H) → Nat
  | [] => 0
  | x :: r => uptoBulkEntry x + uptoBulkEntries r
def uptoBulkEntry {H : Type} : Lit × DataW H → Nat
  | (.string bytes, d) => bytes.length + uptoBulk d + 1
  | (_, d) => uptoBulk d + 1
 end
def uptoSmall : (H : Type) → List (DataW H) → Bool := fun _ ds => decide (uptoBulkAll ds ≤ 1048576)
def OpenSpec.upto (s : _root_.Go.ChangeSpec) : _root_.Go.OpenSpec := { _root_.Go.OpenSpec.ofChange s with cond := some uptoSmall }

/-- 'laws.FnSmallUint64', WHERE WHAT IT READS IS OF BULK AT MOST 1048576: true; the input reads as it did. -/
def fnSmallUint64UptoRow : OpenClaim := { program := "ytipahokhphdafaa", sum := "091984dbfd123cc1426762d6b8973561a074a470bac09a32ac0e97bd48af9b6b", func := "loop.example/pub-g03237/laws.FnSmallUint64", spec := "fnSmallUint64", apart := false, narrowed := true }
def FnSmallUint64UptoSaid : Prop := fnSmallUint64UptoRow.holds Try.pinned (OpenSpec.upto fnSmallUint64Spec)

/-- 'laws.FnTextLen', WHERE WHAT IT READS IS OF BULK AT MOST 1048576: true; the input reads as it did. -/
def fnTextLenUptoRow : OpenClaim := { program := "ytipahokhphdafaa", sum := "091984dbfd123cc1426762d6b8973561a074a470bac09a32ac0e97bd48af9b6b", func := "loop.example/pub-g03237/laws.FnTextLen", spec := "fnTextLen", inPlace := ["(*internal/sync.Mutex).Lock", "internal/race.Disable", "sync/atomic.CompareAndSwapInt32", "internal/race.Enable", "internal/race.Acquire", "(*internal/sync.Mutex).lockSlow", "internal/sync.runtime_canSpin", "internal/sync.runtime_doSpin", "internal/sync.throw", "internal/sync.runtime_nanotime", "internal/sync.runtime_SemacquireMutex", "sync/atomic.AddInt32", "(*internal/sync.Mutex).Unlock", "internal/race.ReleaseMerge", "(*internal/sync.Mutex).unlockSlow", "internal/sync.fatal", "internal/sync.runtime_Semrelease"], recurses := true, apart := false, narrowed := true }
def FnTextLenUptoSaid : Prop := fnTextLenUptoRow.holds Try.pinned (OpenSpec.upto fnTextLenSpec)

/-- 'laws.FnSmallBitLen', WHERE WHAT IT READS IS OF BULK AT MOST 1048576: true; the input reads as it did. -/
def fnSmallBitLenUptoRow : OpenClaim := { program := "ytipahokhphdafaa", sum := "091984dbfd123cc1426762d6b8973561a074a470bac09a32ac0e97bd48af9b6b", func := "loop.example/pub-g03237/laws.FnSmallBitLen", spec := "fnSmallBitLen", apart := false, narrowed := true }
def FnSmallBitLenUptoSaid : Prop := fnSmallBitLenUptoRow.holds Try.pinned (OpenSpec.upto fnSmallBitLenSpec)

/-- 'laws.FnKindOf', WHERE WHAT IT READS IS OF BULK AT MOST 1048576: true; the input reads as it did. -/
def fnKindOfUptoRow : OpenClaim := { program := "ytipahokhphdafaa", sum := "091984dbfd123cc1426762d6b8973561a074a470bac09a32ac0e97bd48af9b6b", func := "loop.example/pub-g03237/laws.FnKindOf", spec := "fnKindOf", unfollowed := true, recurses := true, apart := false, narrowed := true }
def FnKindOfUptoSaid : Prop := fnKindOfUptoRow.holds Try.pinned (OpenSpec.upto fnKindOfSpec)

/-- 'laws.FnUint64Of', WHERE WHAT IT READS IS OF BULK AT MOST 1048576: true; the input reads as it did. -/
def fnUint64OfUptoRow : OpenClaim := { program := "ytipahokhphdafaa", sum := "091984dbfd123cc1426762d6b8973561a074a470bac09a32ac0e97bd48af9b6b", func := "loop.example/pub-g03237/laws.FnUint64Of", spec := "fnUint64Of", apart := false, narrowed := true }
def FnUint64OfUptoSaid : Prop := fnUint64OfUptoRow.holds Try.pinned (OpenSpec.upto fnUint64OfSpec)

/-- 'laws.FnSignOf', WHERE WHAT IT READS IS OF BULK AT MOST 1048576: true; the input reads as it did. -/
def fnSignOfUptoRow : OpenClaim := { program := "ytipahokhphdafaa", sum := "091984dbfd123cc1426762d6b8973561a074a470bac09a32ac0e97bd48af9b6b", func := "loop.example/pub-g03237/laws.FnSignOf", spec := "fnSignOf", recurses := true, apart := false, narrowed := true }
def FnSignOfUptoSaid : Prop := fnSignOfUptoRow.holds Try.pinned (OpenSpec.upto fnSignOfSpec)

/-- 'laws.FnLenOf', WHERE WHAT IT READS IS OF BULK AT MOST 1048576: true; the input reads as it did. -/
def fnLenOfUptoRow : OpenClaim := { program := "ytipahokhphdafaa", sum := "091984dbfd123cc1426762d6b8973561a074a470bac09a32ac0e97bd48af9b6b", func := "loop.example/pub-g03237/laws.FnLenOf", spec := "fnLenOf", apart := false, narrowed := true }
def FnLenOfUptoSaid : Prop := fnLenOfUptoRow.holds Try.pinned (OpenSpec.upto fnLenOfSpec)

/-- 'laws.FnSmallShift', WHERE WHAT IT READS IS OF BULK AT MOST 1048576: true; the input reads as it did. -/
def fnSmallShiftUptoRow : OpenClaim := { program := "ytipahokhphdafaa", sum := "091984dbfd123cc1426762d6b8973561a074a470bac09a32ac0e97bd48af9b6b", func := "loop.example/pub-g03237/laws.FnSmallShift", spec := "fnSmallShift", inPlace := ["math/bits.Sub64", "math/bits.Add64"], recurses := true, apart := false, narrowed := true }
def FnSmallShiftUptoSaid : Prop := fnSmallShiftUptoRow.holds Try.pinned (OpenSpec.upto fnSmallShiftSpec)

end Rows
end Go.Proofs.Ytipahokhphdafaa
