/-
  DERIVED. GIVEN WITH THE SEED: THE CARDS: each row of YtldinjabflaekaaGreatDoorRows.lean that lists a variable, with what it lists TIED to the program's text (the seventh form; the later family's looks); each row that meets fmt, with fmt's text TOLD by the authors' own Lean function (tested against real Go, not proved from fmt's source: count such statements apart). THE CARD IS WHAT COUNTS. Prove the row's statement (the work); the ties are given (YtldinjabflaekaaGreatDoorTie.lean); close each card by the builder's one call (the guide's Derived/Test/ToyasCard.lean, 'card_holds'). Laid BY PROGRAM, IN A SANDBOX (cutbox-door.mjs). By AI agents, Wed Nov 11 2026. No macro, syntax, notation, axiom, sorry.
-/
import Derived.Test.YtldinjabflaekaaGreatDoorRows
import GoSem.ClaimSeven
namespace Go.Proofs.YtldinjabflaekaaGreatDoor
namespace Rows

/-- THE TIED CARD OF 'laws.FnInt64Val'. -/
def fnInt64ValCard : Claim7 := { stood := { row := fnInt64ValRow, standIns := [], harness := (true, "edf3aaee086d50abbea0b5081f0bff55e0c609b9ba96cc325b5d07077c524306"), looks := true }, kinds := [], alts := [], laidByText := true, laidKinds := [.data, .data, .data, .data], laidTests := true, laidLooks := .later }
def FnInt64ValCardSaid : Prop := Claim7.holds Tryz.pinned (.plain (OpenSpec.ofChange fnInt64ValSpec)) fnInt64ValCard

/-- THE TIED CARD OF 'laws.FnBitLen'. -/
def fnBitLenCard : Claim7 := { stood := { row := fnBitLenRow, standIns := [], harness := (true, "edf3aaee086d50abbea0b5081f0bff55e0c609b9ba96cc325b5d07077c524306"), looks := true }, kinds := [], alts := [], laidByText := true, laidKinds := [.data, .data, .data, .data], laidTests := true, laidLooks := .later }
def FnBitLenCardSaid : Prop := Claim7.holds Tryz.pinned (.plain (OpenSpec.ofChange fnBitLenSpec)) fnBitLenCard

/-- THE TIED CARD OF 'laws.FnFloatSign'. -/
def fnFloatSignCard : Claim7 := { stood := { row := fnFloatSignRow, standIns := [], harness := (true, "edf3aaee086d50abbea0b5081f0bff55e0c609b9ba96cc325b5d07077c524306"), looks := true }, kinds := [], alts := [], laidByText := true, laidKinds := [.data, .data, .data, .data], laidTests := true, laidLooks := .later }
def FnFloatSignCardSaid : Prop := Claim7.holds Tryz.pinned (.plain (OpenSpec.ofChange fnFloatSignSpec)) fnFloatSignCard

/-- THE TIED CARD OF 'laws.FnSmallFloat64'. -/
def fnSmallFloat64Card : Claim7 := { stood := { row := fnSmallFloat64Row, standIns := [], harness := (true, "edf3aaee086d50abbea0b5081f0bff55e0c609b9ba96cc325b5d07077c524306"), looks := true }, kinds := [], alts := [], laidByText := true, laidKinds := [.data, .data, .data, .data], laidTests := true, laidLooks := .later }
def FnSmallFloat64CardSaid : Prop := Claim7.holds Tryz.pinned (.plain (OpenSpec.ofChange fnSmallFloat64Spec)) fnSmallFloat64Card

/-- THE TIED CARD OF 'laws.FnTruthNot'. -/
def fnTruthNotCard : Claim7 := { stood := { row := fnTruthNotRow, standIns := [], harness := (true, "edf3aaee086d50abbea0b5081f0bff55e0c609b9ba96cc325b5d07077c524306"), looks := true }, kinds := [], alts := [], laidByText := true, laidKinds := [.data, .data, .data, .data], laidTests := true, laidLooks := .later }
def FnTruthNotCardSaid : Prop := Claim7.holds Tryz.pinned (.plain (OpenSpec.ofChange fnTruthNotSpec)) fnTruthNotCard

/-- THE TIED CARD OF 'laws.FnSmallNegative'. -/
def fnSmallNegativeCard : Claim7 := { stood := { row := fnSmallNegativeRow, standIns := [], harness := (true, "edf3aaee086d50abbea0b5081f0bff55e0c609b9ba96cc325b5d07077c524306"), looks := true }, kinds := [], alts := [], laidByText := true, laidKinds := [.data, .data, .data, .data], laidTests := true, laidLooks := .later }
def FnSmallNegativeCardSaid : Prop := Claim7.holds Tryz.pinned (.plain (OpenSpec.ofChange fnSmallNegativeSpec)) fnSmallNegativeCard

/-- THE TIED CARD OF 'laws.FnFromBytes'. -/
def fnFromBytesCard : Claim7 := { stood := { row := fnFromBytesRow, standIns := [], harness := (true, "edf3aaee086d50abbea0b5081f0bff55e0c609b9ba96cc325b5d07077c524306"), looks := true }, kinds := [], alts := [], laidByText := true, laidKinds := [.data, .data, .data, .data], laidTests := true, laidLooks := .later }
def FnFromBytesCardSaid : Prop := Claim7.holds Tryz.pinned (.plain (OpenSpec.ofChange fnFromBytesSpec)) fnFromBytesCard

/-- THE SECOND FORM's CARD OF 'laws.FnInt64Val'. -/
def fnInt64ValUptoCard : Claim7 := { stood := { row := fnInt64ValUptoRow, standIns := [], harness := (true, "edf3aaee086d50abbea0b5081f0bff55e0c609b9ba96cc325b5d07077c524306"), looks := true }, kinds := [], alts := [], laidByText := true, laidKinds := [.data, .data, .data, .data], laidTests := true, laidLooks := .later }
def FnInt64ValUptoCardSaid : Prop := Claim7.holds Tryz.pinned (.plain (OpenSpec.upto fnInt64ValSpec)) fnInt64ValUptoCard

/-- THE SECOND FORM's CARD OF 'laws.FnBitLen'. -/
def fnBitLenUptoCard : Claim7 := { stood := { row := fnBitLenUptoRow, standIns := [], harness := (true, "edf3aaee086d50abbea0b5081f0bff55e0c609b9ba96cc325b5d07077c524306"), looks := true }, kinds := [], alts := [], laidByText := true, laidKinds := [.data, .data, .data, .data], laidTests := true, laidLooks := .later }
def FnBitLenUptoCardSaid : Prop := Claim7.holds Tryz.pinned (.plain (OpenSpec.upto fnBitLenSpec)) fnBitLenUptoCard

/-- THE SECOND FORM's CARD OF 'laws.FnFloatSign'. -/
def fnFloatSignUptoCard : Claim7 := { stood := { row := fnFloatSignUptoRow, standIns := [], harness := (true, "edf3aaee086d50abbea0b5081f0bff55e0c609b9ba96cc325b5d07077c524306"), looks := true }, kinds := [], alts := [], laidByText := true, laidKinds := [.data, .data, .data, .data], laidTests := true, laidLooks := .later }
def FnFloatSignUptoCardSaid : Prop := Claim7.holds Tryz.pinned (.plain (OpenSpec.upto fnFloatSignSpec)) fnFloatSignUptoCard

/-- THE SECOND FORM's CARD OF 'laws.FnSmallFloat64'. -/
def fnSmallFloat64UptoCard : Claim7 := { stood := { row := fnSmallFloat64UptoRow, standIns := [], harness := (true, "edf3aaee086d50abbea0b5081f0bff55e0c609b9ba96cc325b5d07077c524306"), looks := true }, kinds := [], alts := [], laidByText := true, laidKinds := [.data, .data, .data, .data], laidTests := true, laidLooks := .later }
def FnSmallFloat64UptoCardSaid : Prop := Claim7.holds Tryz.pinned (.plain (OpenSpec.upto fnSmallFloat64Spec)) fnSmallFloat64UptoCard

/-- THE SECOND FORM's CARD OF 'laws.FnTruthNot'. -/
def fnTruthNotUptoCard : Claim7 := { stood := { row := fnTruthNotUptoRow, standIns := [], harness := (true, "edf3aaee086d50abbea0b5081f0bff55e0c609b9ba96cc325b5d07077c524306"), looks := true }, kinds := [], alts := [], laidByText := true, laidKinds := [.data, .data, .data, .data], laidTests := true, laidLooks := .later }
def FnTruthNotUptoCardSaid : Prop := Claim7.holds Tryz.pinned (.plain (OpenSpec.upto fnTruthNotSpec)) fnTruthNotUptoCard

/-- THE SECOND FORM's CARD OF 'laws.FnSmallNegative'. -/
def fnSmallNegativeUptoCard : Claim7 := { stood := { row := fnSmallNegativeUptoRow, standIns := [], harness := (true, "edf3aaee086d50abbea0b5081f0bff55e0c609b9ba96cc325b5d07077c524306"), looks := true }, kinds := [], alts := [], laidByText := true, laidKinds := [.data, .data, .data, .data], laidTests := true, laidLooks := .later }
def FnSmallNegativeUptoCardSaid : Prop := Claim7.holds Tryz.pinned (.plain (OpenSpec.upto fnSmallNegativeSpec)) fnSmallNegativeUptoCard

/-- THE SECOND FORM's CARD OF 'laws.FnFromBytes'. -/
def fnFromBytesUptoCard : Claim7 := { stood := { row := fnFromBytesUptoRow, standIns := [], harness := (true, "edf3aaee086d50abbea0b5081f0bff55e0c609b9ba96cc325b5d07077c524306"), looks := true }, kinds := [], alts := [], laidByText := true, laidKinds := [.data, .data, .data, .data], laidTests := true, laidLooks := .later }
def FnFromBytesUptoCardSaid : Prop := Claim7.holds Tryz.pinned (.plain (OpenSpec.upto fnFromBytesSpec)) fnFromBytesUptoCard
end Rows
end Go.Proofs.YtldinjabflaekaaGreatDoor
