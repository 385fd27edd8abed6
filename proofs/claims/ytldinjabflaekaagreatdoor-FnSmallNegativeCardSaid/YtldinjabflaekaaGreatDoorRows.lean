/-
  NARROWER THAN 'FOR EVERY INPUT', by the rows' own cells (each row's printed sentence says how): FnInt64Val: laid · FnBitLen: laid · FnFloatSign: laid · FnSmallFloat64: laid · FnTruthNot: laid · FnSmallNegative: laid · FnFromBytes: laid.
  DERIVED. THE GIVEN ROWS OF THIS SEAT. 7 by the template 'for every input the law returns true; each argument reads behind the call as it read before'; 0 by the template 'total and deterministic' (their statements: YtldinjabflaekaaGreatDoorTotals.lean).
  GIVEN WITH THE SEED: the statements are not yours to turn. If you find one false, say at which input.
  Laid BY PROGRAM, IN A SANDBOX (cutbox-rows.mjs): the forced cells as the released guide's own fill.sh prints them over the translation 71d28bec3797e53f… (all of the seat's roots in one cut). By AI agents, Wed Nov 11 2026. No macro, syntax, notation, axiom, sorry.
-/
import Derived.Test.YtldinjabflaekaaGreatDoorChecked
import GoSem.Claim
import GoSem.ClaimJoined
import GoSem.ClaimMapViews
import Derived.JoinedTies
import Derived.KernelRfl
namespace Go.Proofs.YtldinjabflaekaaGreatDoor
/- THE CELL 'sum', in the pinned program and in every row, IS THE sha256 OF THE DUMP (.gsa) THAT YtldinjabflaekaaGreatDoorProg.lean LOADS. Nothing in Lean hashes anything: it is a label: what it is worth is what the hold of that sum in a sandbox is worth. -/
noncomputable def Tryz.pinned : Pinned := { name := "ytldinjabflaekaagreatdoor", sum := "71d28bec3797e53f0f4cfa7ae8e70c731356c34ffd9d8568ae074bb1b5499af2", checked := Tryz.checked }
namespace Rows
def none {H : Type} : Left H := { results := [], args := [] }

/- WHAT THE LISTED PACKAGE-LEVEL VARIABLES READ AS WHEN THE CALL BEGINS. Each datum BY PROGRAM (the guide's laid-datum.mjs) off the statement by which the dump's own 'gosem.cut.vars' lays the variable. In a bare row this is a premise. The card (YtldinjabflaekaaGreatDoorCards.lean) ties it to the program's text. -/
def laid_loop_example_pub_g03237_pub_bigall_divRecursiveThreshold {H : Type} : DataW H := .lit (.int .i64 40)
def laid_loop_example_pub_g03237_pub_bigall_karatsubaThreshold {H : Type} : DataW H := .lit (.int .i64 40)
def laid_loop_example_pub_g03237_pub_bigall_basicSqrThreshold {H : Type} : DataW H := .lit (.int .i64 12)
def laid_loop_example_pub_g03237_pub_bigall_karatsubaSqrThreshold {H : Type} : DataW H := .lit (.int .i64 80)

/-- 'laws.FnInt64Val': WHATEVER THE INPUT: true; the input reads as it did. -/
def fnInt64ValSpec : ChangeSpec := { name := "fnInt64Val", vars := ["loop.example/pub-g03237/pub/bigall.divRecursiveThreshold", "loop.example/pub-g03237/pub/bigall.karatsubaThreshold", "loop.example/pub-g03237/pub/bigall.basicSqrThreshold", "loop.example/pub-g03237/pub/bigall.karatsubaSqrThreshold"], fn := fun _ => fun
  | [d, g1, g2, g3, g4] => { results := [.lit (.bool true)], args := [d], vars := [g1, g2, g3, g4] }
  | _ => none }
def fnInt64ValRow : OpenClaim := { program := "ytldinjabflaekaagreatdoor", sum := "71d28bec3797e53f0f4cfa7ae8e70c731356c34ffd9d8568ae074bb1b5499af2", func := "loop.example/pub-g03237/laws.FnInt64Val", spec := "fnInt64Val", inPlace := ["math/bits.Add64", "math/bits.Sub64"], recurses := true, named := ["loop.example/pub-g03237/pub/bigall.divRecursiveThreshold", "loop.example/pub-g03237/pub/bigall.karatsubaThreshold", "loop.example/pub-g03237/pub/bigall.basicSqrThreshold", "loop.example/pub-g03237/pub/bigall.karatsubaSqrThreshold"], apart := false, laid := [("loop.example/pub-g03237/pub/bigall.divRecursiveThreshold", laid_loop_example_pub_g03237_pub_bigall_divRecursiveThreshold), ("loop.example/pub-g03237/pub/bigall.karatsubaThreshold", laid_loop_example_pub_g03237_pub_bigall_karatsubaThreshold), ("loop.example/pub-g03237/pub/bigall.basicSqrThreshold", laid_loop_example_pub_g03237_pub_bigall_basicSqrThreshold), ("loop.example/pub-g03237/pub/bigall.karatsubaSqrThreshold", laid_loop_example_pub_g03237_pub_bigall_karatsubaSqrThreshold)] }
def FnInt64ValSaid : Prop := fnInt64ValRow.holds Tryz.pinned (OpenSpec.ofChange fnInt64ValSpec)

/-- ITS FALSE NEIGHBOUR: 'it returns false'. Refute it at one input. -/
def fnInt64ValWrong : ChangeSpec := { name := "fnInt64Val", vars := ["loop.example/pub-g03237/pub/bigall.divRecursiveThreshold", "loop.example/pub-g03237/pub/bigall.karatsubaThreshold", "loop.example/pub-g03237/pub/bigall.basicSqrThreshold", "loop.example/pub-g03237/pub/bigall.karatsubaSqrThreshold"], fn := fun _ => fun
  | [d, g1, g2, g3, g4] => { results := [.lit (.bool false)], args := [d], vars := [g1, g2, g3, g4] }
  | _ => none }
def FnInt64ValWrongFalsely : Prop := fnInt64ValRow.holds Tryz.pinned (OpenSpec.ofChange fnInt64ValWrong)

/-- 'laws.FnBitLen': WHATEVER THE INPUT: true; the input reads as it did. -/
def fnBitLenSpec : ChangeSpec := { name := "fnBitLen", vars := ["loop.example/pub-g03237/pub/bigall.divRecursiveThreshold", "loop.example/pub-g03237/pub/bigall.karatsubaThreshold", "loop.example/pub-g03237/pub/bigall.basicSqrThreshold", "loop.example/pub-g03237/pub/bigall.karatsubaSqrThreshold"], fn := fun _ => fun
  | [d, g1, g2, g3, g4] => { results := [.lit (.bool true)], args := [d], vars := [g1, g2, g3, g4] }
  | _ => none }
def fnBitLenRow : OpenClaim := { program := "ytldinjabflaekaagreatdoor", sum := "71d28bec3797e53f0f4cfa7ae8e70c731356c34ffd9d8568ae074bb1b5499af2", func := "loop.example/pub-g03237/laws.FnBitLen", spec := "fnBitLen", inPlace := ["math/bits.Add64", "math/bits.Sub64"], recurses := true, named := ["loop.example/pub-g03237/pub/bigall.divRecursiveThreshold", "loop.example/pub-g03237/pub/bigall.karatsubaThreshold", "loop.example/pub-g03237/pub/bigall.basicSqrThreshold", "loop.example/pub-g03237/pub/bigall.karatsubaSqrThreshold"], apart := false, laid := [("loop.example/pub-g03237/pub/bigall.divRecursiveThreshold", laid_loop_example_pub_g03237_pub_bigall_divRecursiveThreshold), ("loop.example/pub-g03237/pub/bigall.karatsubaThreshold", laid_loop_example_pub_g03237_pub_bigall_karatsubaThreshold), ("loop.example/pub-g03237/pub/bigall.basicSqrThreshold", laid_loop_example_pub_g03237_pub_bigall_basicSqrThreshold), ("loop.example/pub-g03237/pub/bigall.karatsubaSqrThreshold", laid_loop_example_pub_g03237_pub_bigall_karatsubaSqrThreshold)] }
def FnBitLenSaid : Prop := fnBitLenRow.holds Tryz.pinned (OpenSpec.ofChange fnBitLenSpec)

/-- ITS FALSE NEIGHBOUR: 'it returns false'. Refute it at one input. -/
def fnBitLenWrong : ChangeSpec := { name := "fnBitLen", vars := ["loop.example/pub-g03237/pub/bigall.divRecursiveThreshold", "loop.example/pub-g03237/pub/bigall.karatsubaThreshold", "loop.example/pub-g03237/pub/bigall.basicSqrThreshold", "loop.example/pub-g03237/pub/bigall.karatsubaSqrThreshold"], fn := fun _ => fun
  | [d, g1, g2, g3, g4] => { results := [.lit (.bool false)], args := [d], vars := [g1, g2, g3, g4] }
  | _ => none }
def FnBitLenWrongFalsely : Prop := fnBitLenRow.holds Tryz.pinned (OpenSpec.ofChange fnBitLenWrong)

/-- 'laws.FnFloatSign': WHATEVER THE INPUT: true; the input reads as it did. -/
def fnFloatSignSpec : ChangeSpec := { name := "fnFloatSign", vars := ["loop.example/pub-g03237/pub/bigall.divRecursiveThreshold", "loop.example/pub-g03237/pub/bigall.karatsubaThreshold", "loop.example/pub-g03237/pub/bigall.basicSqrThreshold", "loop.example/pub-g03237/pub/bigall.karatsubaSqrThreshold"], fn := fun _ => fun
  | [d, g1, g2, g3, g4] => { results := [.lit (.bool true)], args := [d], vars := [g1, g2, g3, g4] }
  | _ => none }
def fnFloatSignRow : OpenClaim := { program := "ytldinjabflaekaagreatdoor", sum := "71d28bec3797e53f0f4cfa7ae8e70c731356c34ffd9d8568ae074bb1b5499af2", func := "loop.example/pub-g03237/laws.FnFloatSign", spec := "fnFloatSign", inPlace := ["math/bits.Add64", "math/bits.Sub64"], recurses := true, named := ["loop.example/pub-g03237/pub/bigall.divRecursiveThreshold", "loop.example/pub-g03237/pub/bigall.karatsubaThreshold", "loop.example/pub-g03237/pub/bigall.basicSqrThreshold", "loop.example/pub-g03237/pub/bigall.karatsubaSqrThreshold"], apart := false, laid := [("loop.example/pub-g03237/pub/bigall.divRecursiveThreshold", laid_loop_example_pub_g03237_pub_bigall_divRecursiveThreshold), ("loop.example/pub-g03237/pub/bigall.karatsubaThreshold", laid_loop_example_pub_g03237_pub_bigall_karatsubaThreshold), ("loop.example/pub-g03237/pub/bigall.basicSqrThreshold", laid_loop_example_pub_g03237_pub_bigall_basicSqrThreshold), ("loop.example/pub-g03237/pub/bigall.karatsubaSqrThreshold", laid_loop_example_pub_g03237_pub_bigall_karatsubaSqrThreshold)] }
def FnFloatSignSaid : Prop := fnFloatSignRow.holds Tryz.pinned (OpenSpec.ofChange fnFloatSignSpec)

/-- ITS FALSE NEIGHBOUR: 'it returns false'. Refute it at one input. -/
def fnFloatSignWrong : ChangeSpec := { name := "fnFloatSign", vars := ["loop.example/pub-g03237/pub/bigall.divRecursiveThreshold", "loop.example/pub-g03237/pub/bigall.karatsubaThreshold", "loop.example/pub-g03237/pub/bigall.basicSqrThreshold", "loop.example/pub-g03237/pub/bigall.karatsubaSqrThreshold"], fn := fun _ => fun
  | [d, g1, g2, g3, g4] => { results := [.lit (.bool false)], args := [d], vars := [g1, g2, g3, g4] }
  | _ => none }
def FnFloatSignWrongFalsely : Prop := fnFloatSignRow.holds Tryz.pinned (OpenSpec.ofChange fnFloatSignWrong)

/-- 'laws.FnSmallFloat64': WHATEVER THE INPUT: true; the input reads as it did. -/
def fnSmallFloat64Spec : ChangeSpec := { name := "fnSmallFloat64", vars := ["loop.example/pub-g03237/pub/bigall.divRecursiveThreshold", "loop.example/pub-g03237/pub/bigall.karatsubaThreshold", "loop.example/pub-g03237/pub/bigall.basicSqrThreshold", "loop.example/pub-g03237/pub/bigall.karatsubaSqrThreshold"], fn := fun _ => fun
  | [d, g1, g2, g3, g4] => { results := [.lit (.bool true)], args := [d], vars := [g1, g2, g3, g4] }
  | _ => none }
def fnSmallFloat64Row : OpenClaim := { program := "ytldinjabflaekaagreatdoor", sum := "71d28bec3797e53f0f4cfa7ae8e70c731356c34ffd9d8568ae074bb1b5499af2", func := "loop.example/pub-g03237/laws.FnSmallFloat64", spec := "fnSmallFloat64", inPlace := ["math/bits.Add64", "math.Float64frombits", "math/bits.Sub64", "math.Float64bits"], recurses := true, named := ["loop.example/pub-g03237/pub/bigall.divRecursiveThreshold", "loop.example/pub-g03237/pub/bigall.karatsubaThreshold", "loop.example/pub-g03237/pub/bigall.basicSqrThreshold", "loop.example/pub-g03237/pub/bigall.karatsubaSqrThreshold"], apart := false, laid := [("loop.example/pub-g03237/pub/bigall.divRecursiveThreshold", laid_loop_example_pub_g03237_pub_bigall_divRecursiveThreshold), ("loop.example/pub-g03237/pub/bigall.karatsubaThreshold", laid_loop_example_pub_g03237_pub_bigall_karatsubaThreshold), ("loop.example/pub-g03237/pub/bigall.basicSqrThreshold", laid_loop_example_pub_g03237_pub_bigall_basicSqrThreshold), ("loop.example/pub-g03237/pub/bigall.karatsubaSqrThreshold", laid_loop_example_pub_g03237_pub_bigall_karatsubaSqrThreshold)] }
def FnSmallFloat64Said : Prop := fnSmallFloat64Row.holds Tryz.pinned (OpenSpec.ofChange fnSmallFloat64Spec)

/-- ITS FALSE NEIGHBOUR: 'it returns false'. Refute it at one input. -/
def fnSmallFloat64Wrong : ChangeSpec := { name := "fnSmallFloat64", vars := ["loop.example/pub-g03237/pub/bigall.divRecursiveThreshold", "loop.example/pub-g03237/pub/bigall.karatsubaThreshold", "loop.example/pub-g03237/pub/bigall.basicSqrThreshold", "loop.example/pub-g03237/pub/bigall.karatsubaSqrThreshold"], fn := fun _ => fun
  | [d, g1, g2, g3, g4] => { results := [.lit (.bool false)], args := [d], vars := [g1, g2, g3, g4] }
  | _ => none }
def FnSmallFloat64WrongFalsely : Prop := fnSmallFloat64Row.holds Tryz.pinned (OpenSpec.ofChange fnSmallFloat64Wrong)

/-- 'laws.FnTruthNot': WHATEVER THE INPUT: true; the input reads as it did. -/
def fnTruthNotSpec : ChangeSpec := { name := "fnTruthNot", vars := ["loop.example/pub-g03237/pub/bigall.divRecursiveThreshold", "loop.example/pub-g03237/pub/bigall.karatsubaThreshold", "loop.example/pub-g03237/pub/bigall.basicSqrThreshold", "loop.example/pub-g03237/pub/bigall.karatsubaSqrThreshold"], fn := fun _ => fun
  | [d, g1, g2, g3, g4] => { results := [.lit (.bool true)], args := [d], vars := [g1, g2, g3, g4] }
  | _ => none }
def fnTruthNotRow : OpenClaim := { program := "ytldinjabflaekaagreatdoor", sum := "71d28bec3797e53f0f4cfa7ae8e70c731356c34ffd9d8568ae074bb1b5499af2", func := "loop.example/pub-g03237/laws.FnTruthNot", spec := "fnTruthNot", inPlace := ["math/bits.Add64", "math/bits.Sub64"], unfollowed := true, recurses := true, named := ["loop.example/pub-g03237/pub/bigall.divRecursiveThreshold", "loop.example/pub-g03237/pub/bigall.karatsubaThreshold", "loop.example/pub-g03237/pub/bigall.basicSqrThreshold", "loop.example/pub-g03237/pub/bigall.karatsubaSqrThreshold"], apart := false, laid := [("loop.example/pub-g03237/pub/bigall.divRecursiveThreshold", laid_loop_example_pub_g03237_pub_bigall_divRecursiveThreshold), ("loop.example/pub-g03237/pub/bigall.karatsubaThreshold", laid_loop_example_pub_g03237_pub_bigall_karatsubaThreshold), ("loop.example/pub-g03237/pub/bigall.basicSqrThreshold", laid_loop_example_pub_g03237_pub_bigall_basicSqrThreshold), ("loop.example/pub-g03237/pub/bigall.karatsubaSqrThreshold", laid_loop_example_pub_g03237_pub_bigall_karatsubaSqrThreshold)] }
def FnTruthNotSaid : Prop := fnTruthNotRow.holds Tryz.pinned (OpenSpec.ofChange fnTruthNotSpec)

/-- ITS FALSE NEIGHBOUR: 'it returns false'. Refute it at one input. -/
def fnTruthNotWrong : ChangeSpec := { name := "fnTruthNot", vars := ["loop.example/pub-g03237/pub/bigall.divRecursiveThreshold", "loop.example/pub-g03237/pub/bigall.karatsubaThreshold", "loop.example/pub-g03237/pub/bigall.basicSqrThreshold", "loop.example/pub-g03237/pub/bigall.karatsubaSqrThreshold"], fn := fun _ => fun
  | [d, g1, g2, g3, g4] => { results := [.lit (.bool false)], args := [d], vars := [g1, g2, g3, g4] }
  | _ => none }
def FnTruthNotWrongFalsely : Prop := fnTruthNotRow.holds Tryz.pinned (OpenSpec.ofChange fnTruthNotWrong)

/-- 'laws.FnSmallNegative': WHATEVER THE INPUT: true; the input reads as it did. -/
def fnSmallNegativeSpec : ChangeSpec := { name := "fnSmallNegative", vars := ["loop.example/pub-g03237/pub/bigall.divRecursiveThreshold", "loop.example/pub-g03237/pub/bigall.karatsubaThreshold", "loop.example/pub-g03237/pub/bigall.basicSqrThreshold", "loop.example/pub-g03237/pub/bigall.karatsubaSqrThreshold"], fn := fun _ => fun
  | [d, g1, g2, g3, g4] => { results := [.lit (.bool true)], args := [d], vars := [g1, g2, g3, g4] }
  | _ => none }
def fnSmallNegativeRow : OpenClaim := { program := "ytldinjabflaekaagreatdoor", sum := "71d28bec3797e53f0f4cfa7ae8e70c731356c34ffd9d8568ae074bb1b5499af2", func := "loop.example/pub-g03237/laws.FnSmallNegative", spec := "fnSmallNegative", inPlace := ["math/bits.Add64", "math/bits.Sub64"], unfollowed := true, recurses := true, named := ["loop.example/pub-g03237/pub/bigall.divRecursiveThreshold", "loop.example/pub-g03237/pub/bigall.karatsubaThreshold", "loop.example/pub-g03237/pub/bigall.basicSqrThreshold", "loop.example/pub-g03237/pub/bigall.karatsubaSqrThreshold"], apart := false, laid := [("loop.example/pub-g03237/pub/bigall.divRecursiveThreshold", laid_loop_example_pub_g03237_pub_bigall_divRecursiveThreshold), ("loop.example/pub-g03237/pub/bigall.karatsubaThreshold", laid_loop_example_pub_g03237_pub_bigall_karatsubaThreshold), ("loop.example/pub-g03237/pub/bigall.basicSqrThreshold", laid_loop_example_pub_g03237_pub_bigall_basicSqrThreshold), ("loop.example/pub-g03237/pub/bigall.karatsubaSqrThreshold", laid_loop_example_pub_g03237_pub_bigall_karatsubaSqrThreshold)] }
def FnSmallNegativeSaid : Prop := fnSmallNegativeRow.holds Tryz.pinned (OpenSpec.ofChange fnSmallNegativeSpec)

/-- ITS FALSE NEIGHBOUR: 'it returns false'. Refute it at one input. -/
def fnSmallNegativeWrong : ChangeSpec := { name := "fnSmallNegative", vars := ["loop.example/pub-g03237/pub/bigall.divRecursiveThreshold", "loop.example/pub-g03237/pub/bigall.karatsubaThreshold", "loop.example/pub-g03237/pub/bigall.basicSqrThreshold", "loop.example/pub-g03237/pub/bigall.karatsubaSqrThreshold"], fn := fun _ => fun
  | [d, g1, g2, g3, g4] => { results := [.lit (.bool false)], args := [d], vars := [g1, g2, g3, g4] }
  | _ => none }
def FnSmallNegativeWrongFalsely : Prop := fnSmallNegativeRow.holds Tryz.pinned (OpenSpec.ofChange fnSmallNegativeWrong)

/-- 'laws.FnFromBytes': WHATEVER THE INPUT: true; the input reads as it did. -/
def fnFromBytesSpec : ChangeSpec := { name := "fnFromBytes", vars := ["loop.example/pub-g03237/pub/bigall.divRecursiveThreshold", "loop.example/pub-g03237/pub/bigall.karatsubaThreshold", "loop.example/pub-g03237/pub/bigall.basicSqrThreshold", "loop.example/pub-g03237/pub/bigall.karatsubaSqrThreshold"], fn := fun _ => fun
  | [d, g1, g2, g3, g4] => { results := [.lit (.bool true)], args := [d], vars := [g1, g2, g3, g4] }
  | _ => none }
def fnFromBytesRow : OpenClaim := { program := "ytldinjabflaekaagreatdoor", sum := "71d28bec3797e53f0f4cfa7ae8e70c731356c34ffd9d8568ae074bb1b5499af2", func := "loop.example/pub-g03237/laws.FnFromBytes", spec := "fnFromBytes", inPlace := ["(*internal/sync.Mutex).Lock", "internal/race.Disable", "sync/atomic.CompareAndSwapInt32", "internal/race.Enable", "internal/race.Acquire", "(*internal/sync.Mutex).lockSlow", "internal/sync.runtime_canSpin", "internal/sync.runtime_doSpin", "internal/sync.throw", "internal/sync.runtime_nanotime", "internal/sync.runtime_SemacquireMutex", "sync/atomic.AddInt32", "(*internal/sync.Mutex).Unlock", "internal/race.ReleaseMerge", "(*internal/sync.Mutex).unlockSlow", "internal/sync.fatal", "internal/sync.runtime_Semrelease", "internal/abi.NoEscape", "internal/bytealg.MakeNoZero", "math/bits.Add64", "math/bits.Sub64"], unfollowed := true, recurses := true, named := ["loop.example/pub-g03237/pub/bigall.divRecursiveThreshold", "loop.example/pub-g03237/pub/bigall.karatsubaThreshold", "loop.example/pub-g03237/pub/bigall.basicSqrThreshold", "loop.example/pub-g03237/pub/bigall.karatsubaSqrThreshold"], apart := false, laid := [("loop.example/pub-g03237/pub/bigall.divRecursiveThreshold", laid_loop_example_pub_g03237_pub_bigall_divRecursiveThreshold), ("loop.example/pub-g03237/pub/bigall.karatsubaThreshold", laid_loop_example_pub_g03237_pub_bigall_karatsubaThreshold), ("loop.example/pub-g03237/pub/bigall.basicSqrThreshold", laid_loop_example_pub_g03237_pub_bigall_basicSqrThreshold), ("loop.example/pub-g03237/pub/bigall.karatsubaSqrThreshold", laid_loop_example_pub_g03237_pub_bigall_karatsubaSqrThreshold)] }
def FnFromBytesSaid : Prop := fnFromBytesRow.holds Tryz.pinned (OpenSpec.ofChange fnFromBytesSpec)

/-- ITS FALSE NEIGHBOUR: 'it returns false'. Refute it at one input. -/
def fnFromBytesWrong : ChangeSpec := { name := "fnFromBytes", vars := ["loop.example/pub-g03237/pub/bigall.divRecursiveThreshold", "loop.example/pub-g03237/pub/bigall.karatsubaThreshold", "loop.example/pub-g03237/pub/bigall.basicSqrThreshold", "loop.example/pub-g03237/pub/bigall.karatsubaSqrThreshold"], fn := fun _ => fun
  | [d, g1, g2, g3, g4] => { results := [.lit (.bool false)], args := [d], vars := [g1, g2, g3, g4] }
  | _ => none }
def FnFromBytesWrongFalsely : Prop := fnFromBytesRow.holds Tryz.pinned (OpenSpec.ofChange fnFromBytesWrong)

/- THE SECOND FORM. 'bulk': how many values and letters a reading holds, each counted each time it is reached (what is shared counts as often as it is met; a slice's spare places count too). A statement '..UptoSaid' is the law's where the arguments, and the package variables that the reading takes, are together of bulk at most 1048576: NARROWER than '..Said'. Prove '..Said' where nothing that the law and all that it calls make is longer than what came in: it says more and counts as full. Else prove '..UptoSaid'. A law counts once. -/
mutual
def uptoBulk {H : Type} : DataW H → Nat
  | .lit (.string bytes) => bytes.length + 1
  | .lit _ => 1
  | .nil => 1
  | .ptr d => uptoBulk d + 1
  | .slice elems spare => uptoBulkAll elems + uptoBulkAll spare + 1
  | .agg parts => uptoBulkAll parts + 1
  | .iface _ d => uptoBulk d + 1
  | .map entries => uptoBulkEntries entries + 1
  | .held _ => 1
def uptoBulkAll {H : Type} : List (DataW H) → Nat
  | [] => 0
  | d :: r => uptoBulk d + uptoBulkAll r
def uptoBulkEntries {H : Type} : List (Lit × DataW H) → Nat
  | [] => 0
  | x :: r => uptoBulkEntry x + uptoBulkEntries r
def uptoBulkEntry {H : Type} : Lit × DataW H → Nat
  | (.string bytes, d) => bytes.length + uptoBulk d + 1
  | (_, d) => uptoBulk d + 1
 end
def uptoSmall : (H : Type) → List (DataW H) → Bool := fun _ ds => decide (uptoBulkAll ds ≤ 1048576)
def OpenSpec.upto (s : _root_.Go.ChangeSpec) : _root_.Go.OpenSpec := { _root_.Go.OpenSpec.ofChange s with cond := some uptoSmall }

/-- 'laws.FnInt64Val', WHERE WHAT IT READS IS OF BULK AT MOST 1048576: true; the input reads as it did. -/
def fnInt64ValUptoRow : OpenClaim := { program := "ytldinjabflaekaagreatdoor", sum := "71d28bec3797e53f0f4cfa7ae8e70c731356c34ffd9d8568ae074bb1b5499af2", func := "loop.example/pub-g03237/laws.FnInt64Val", spec := "fnInt64Val", inPlace := ["math/bits.Add64", "math/bits.Sub64"], recurses := true, named := ["loop.example/pub-g03237/pub/bigall.divRecursiveThreshold", "loop.example/pub-g03237/pub/bigall.karatsubaThreshold", "loop.example/pub-g03237/pub/bigall.basicSqrThreshold", "loop.example/pub-g03237/pub/bigall.karatsubaSqrThreshold"], apart := false, laid := [("loop.example/pub-g03237/pub/bigall.divRecursiveThreshold", laid_loop_example_pub_g03237_pub_bigall_divRecursiveThreshold), ("loop.example/pub-g03237/pub/bigall.karatsubaThreshold", laid_loop_example_pub_g03237_pub_bigall_karatsubaThreshold), ("loop.example/pub-g03237/pub/bigall.basicSqrThreshold", laid_loop_example_pub_g03237_pub_bigall_basicSqrThreshold), ("loop.example/pub-g03237/pub/bigall.karatsubaSqrThreshold", laid_loop_example_pub_g03237_pub_bigall_karatsubaSqrThreshold)], narrowed := true }
def FnInt64ValUptoSaid : Prop := fnInt64ValUptoRow.holds Tryz.pinned (OpenSpec.upto fnInt64ValSpec)

/-- 'laws.FnBitLen', WHERE WHAT IT READS IS OF BULK AT MOST 1048576: true; the input reads as it did. -/
def fnBitLenUptoRow : OpenClaim := { program := "ytldinjabflaekaagreatdoor", sum := "71d28bec3797e53f0f4cfa7ae8e70c731356c34ffd9d8568ae074bb1b5499af2", func := "loop.example/pub-g03237/laws.FnBitLen", spec := "fnBitLen", inPlace := ["math/bits.Add64", "math/bits.Sub64"], recurses := true, named := ["loop.example/pub-g03237/pub/bigall.divRecursiveThreshold", "loop.example/pub-g03237/pub/bigall.karatsubaThreshold", "loop.example/pub-g03237/pub/bigall.basicSqrThreshold", "loop.example/pub-g03237/pub/bigall.karatsubaSqrThreshold"], apart := false, laid := [("loop.example/pub-g03237/pub/bigall.divRecursiveThreshold", laid_loop_example_pub_g03237_pub_bigall_divRecursiveThreshold), ("loop.example/pub-g03237/pub/bigall.karatsubaThreshold", laid_loop_example_pub_g03237_pub_bigall_karatsubaThreshold), ("loop.example/pub-g03237/pub/bigall.basicSqrThreshold", laid_loop_example_pub_g03237_pub_bigall_basicSqrThreshold), ("loop.example/pub-g03237/pub/bigall.karatsubaSqrThreshold", laid_loop_example_pub_g03237_pub_bigall_karatsubaSqrThreshold)], narrowed := true }
def FnBitLenUptoSaid : Prop := fnBitLenUptoRow.holds Tryz.pinned (OpenSpec.upto fnBitLenSpec)

/-- 'laws.FnFloatSign', WHERE WHAT IT READS IS OF BULK AT MOST 1048576: true; the input reads as it did. -/
def fnFloatSignUptoRow : OpenClaim := { program := "ytldinjabflaekaagreatdoor", sum := "71d28bec3797e53f0f4cfa7ae8e70c731356c34ffd9d8568ae074bb1b5499af2", func := "loop.example/pub-g03237/laws.FnFloatSign", spec := "fnFloatSign", inPlace := ["math/bits.Add64", "math/bits.Sub64"], recurses := true, named := ["loop.example/pub-g03237/pub/bigall.divRecursiveThreshold", "loop.example/pub-g03237/pub/bigall.karatsubaThreshold", "loop.example/pub-g03237/pub/bigall.basicSqrThreshold", "loop.example/pub-g03237/pub/bigall.karatsubaSqrThreshold"], apart := false, laid := [("loop.example/pub-g03237/pub/bigall.divRecursiveThreshold", laid_loop_example_pub_g03237_pub_bigall_divRecursiveThreshold), ("loop.example/pub-g03237/pub/bigall.karatsubaThreshold", laid_loop_example_pub_g03237_pub_bigall_karatsubaThreshold), ("loop.example/pub-g03237/pub/bigall.basicSqrThreshold", laid_loop_example_pub_g03237_pub_bigall_basicSqrThreshold), ("loop.example/pub-g03237/pub/bigall.karatsubaSqrThreshold", laid_loop_example_pub_g03237_pub_bigall_karatsubaSqrThreshold)], narrowed := true }
def FnFloatSignUptoSaid : Prop := fnFloatSignUptoRow.holds Tryz.pinned (OpenSpec.upto fnFloatSignSpec)

/-- 'laws.FnSmallFloat64', WHERE WHAT IT READS IS OF BULK AT MOST 1048576: true; the input reads as it did. -/
def fnSmallFloat64UptoRow : OpenClaim := { program := "ytldinjabflaekaagreatdoor", sum := "71d28bec3797e53f0f4cfa7ae8e70c731356c34ffd9d8568ae074bb1b5499af2", func := "loop.example/pub-g03237/laws.FnSmallFloat64", spec := "fnSmallFloat64", inPlace := ["math/bits.Add64", "math.Float64frombits", "math/bits.Sub64", "math.Float64bits"], recurses := true, named := ["loop.example/pub-g03237/pub/bigall.divRecursiveThreshold", "loop.example/pub-g03237/pub/bigall.karatsubaThreshold", "loop.example/pub-g03237/pub/bigall.basicSqrThreshold", "loop.example/pub-g03237/pub/bigall.karatsubaSqrThreshold"], apart := false, laid := [("loop.example/pub-g03237/pub/bigall.divRecursiveThreshold", laid_loop_example_pub_g03237_pub_bigall_divRecursiveThreshold), ("loop.example/pub-g03237/pub/bigall.karatsubaThreshold", laid_loop_example_pub_g03237_pub_bigall_karatsubaThreshold), ("loop.example/pub-g03237/pub/bigall.basicSqrThreshold", laid_loop_example_pub_g03237_pub_bigall_basicSqrThreshold), ("loop.example/pub-g03237/pub/bigall.karatsubaSqrThreshold", laid_loop_example_pub_g03237_pub_bigall_karatsubaSqrThreshold)], narrowed := true }
def FnSmallFloat64UptoSaid : Prop := fnSmallFloat64UptoRow.holds Tryz.pinned (OpenSpec.upto fnSmallFloat64Spec)

/-- 'laws.FnTruthNot', WHERE WHAT IT READS IS OF BULK AT MOST 1048576: true; the input reads as it did. -/
def fnTruthNotUptoRow : OpenClaim := { program := "ytldinjabflaekaagreatdoor", sum := "71d28bec3797e53f0f4cfa7ae8e70c731356c34ffd9d8568ae074bb1b5499af2", func := "loop.example/pub-g03237/laws.FnTruthNot", spec := "fnTruthNot", inPlace := ["math/bits.Add64", "math/bits.Sub64"], unfollowed := true, recurses := true, named := ["loop.example/pub-g03237/pub/bigall.divRecursiveThreshold", "loop.example/pub-g03237/pub/bigall.karatsubaThreshold", "loop.example/pub-g03237/pub/bigall.basicSqrThreshold", "loop.example/pub-g03237/pub/bigall.karatsubaSqrThreshold"], apart := false, laid := [("loop.example/pub-g03237/pub/bigall.divRecursiveThreshold", laid_loop_example_pub_g03237_pub_bigall_divRecursiveThreshold), ("loop.example/pub-g03237/pub/bigall.karatsubaThreshold", laid_loop_example_pub_g03237_pub_bigall_karatsubaThreshold), ("loop.example/pub-g03237/pub/bigall.basicSqrThreshold", laid_loop_example_pub_g03237_pub_bigall_basicSqrThreshold), ("loop.example/pub-g03237/pub/bigall.karatsubaSqrThreshold", laid_loop_example_pub_g03237_pub_bigall_karatsubaSqrThreshold)], narrowed := true }
def FnTruthNotUptoSaid : Prop := fnTruthNotUptoRow.holds Tryz.pinned (OpenSpec.upto fnTruthNotSpec)

/-- 'laws.FnSmallNegative', WHERE WHAT IT READS IS OF BULK AT MOST 1048576: true; the input reads as it did. -/
def fnSmallNegativeUptoRow : OpenClaim := { program := "ytldinjabflaekaagreatdoor", sum := "71d28bec3797e53f0f4cfa7ae8e70c731356c34ffd9d8568ae074bb1b5499af2", func := "loop.example/pub-g03237/laws.FnSmallNegative", spec := "fnSmallNegative", inPlace := ["math/bits.Add64", "math/bits.Sub64"], unfollowed := true, recurses := true, named := ["loop.example/pub-g03237/pub/bigall.divRecursiveThreshold", "loop.example/pub-g03237/pub/bigall.karatsubaThreshold", "loop.example/pub-g03237/pub/bigall.basicSqrThreshold", "loop.example/pub-g03237/pub/bigall.karatsubaSqrThreshold"], apart := false, laid := [("loop.example/pub-g03237/pub/bigall.divRecursiveThreshold", laid_loop_example_pub_g03237_pub_bigall_divRecursiveThreshold), ("loop.example/pub-g03237/pub/bigall.karatsubaThreshold", laid_loop_example_pub_g03237_pub_bigall_karatsubaThreshold), ("loop.example/pub-g03237/pub/bigall.basicSqrThreshold", laid_loop_example_pub_g03237_pub_bigall_basicSqrThreshold), ("loop.example/pub-g03237/pub/bigall.karatsubaSqrThreshold", laid_loop_example_pub_g03237_pub_bigall_karatsubaSqrThreshold)], narrowed := true }
def FnSmallNegativeUptoSaid : Prop := fnSmallNegativeUptoRow.holds Tryz.pinned (OpenSpec.upto fnSmallNegativeSpec)

/-- 'laws.FnFromBytes', WHERE WHAT IT READS IS OF BULK AT MOST 1048576: true; the input reads as it did. -/
def fnFromBytesUptoRow : OpenClaim := { program := "ytldinjabflaekaagreatdoor", sum := "71d28bec3797e53f0f4cfa7ae8e70c731356c34ffd9d8568ae074bb1b5499af2", func := "loop.example/pub-g03237/laws.FnFromBytes", spec := "fnFromBytes", inPlace := ["(*internal/sync.Mutex).Lock", "internal/race.Disable", "sync/atomic.CompareAndSwapInt32", "internal/race.Enable", "internal/race.Acquire", "(*internal/sync.Mutex).lockSlow", "internal/sync.runtime_canSpin", "internal/sync.runtime_doSpin", "internal/sync.throw", "internal/sync.runtime_nanotime", "internal/sync.runtime_SemacquireMutex", "sync/atomic.AddInt32", "(*internal/sync.Mutex).Unlock", "internal/race.ReleaseMerge", "(*internal/sync.Mutex).unlockSlow", "internal/sync.fatal", "internal/sync.runtime_Semrelease", "internal/abi.NoEscape", "internal/bytealg.MakeNoZero", "math/bits.Add64", "math/bits.Sub64"], unfollowed := true, recurses := true, named := ["loop.example/pub-g03237/pub/bigall.divRecursiveThreshold", "loop.example/pub-g03237/pub/bigall.karatsubaThreshold", "loop.example/pub-g03237/pub/bigall.basicSqrThreshold", "loop.example/pub-g03237/pub/bigall.karatsubaSqrThreshold"], apart := false, laid := [("loop.example/pub-g03237/pub/bigall.divRecursiveThreshold", laid_loop_example_pub_g03237_pub_bigall_divRecursiveThreshold), ("loop.example/pub-g03237/pub/bigall.karatsubaThreshold", laid_loop_example_pub_g03237_pub_bigall_karatsubaThreshold), ("loop.example/pub-g03237/pub/bigall.basicSqrThreshold", laid_loop_example_pub_g03237_pub_bigall_basicSqrThreshold), ("loop.example/pub-g03237/pub/bigall.karatsubaSqrThreshold", laid_loop_example_pub_g03237_pub_bigall_karatsubaSqrThreshold)], narrowed := true }
def FnFromBytesUptoSaid : Prop := fnFromBytesUptoRow.holds Tryz.pinned (OpenSpec.upto fnFromBytesSpec)

end Rows
end Go.Proofs.YtldinjabflaekaaGreatDoor
