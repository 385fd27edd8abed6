/-
  DERIVED. GIVEN WITH THE SEED: THE CARDS: each row of YtflcbjljeelalaaGreatDoorRows.lean that lists a variable, with what it lists TIED to the program's text (the seventh form; the later family's looks); each row that meets fmt, with fmt's text TOLD by the authors' own Lean function (tested against real Go, not proved from fmt's source: count such statements apart). THE CARD IS WHAT COUNTS. Prove the row's statement (the work); the ties are given (YtflcbjljeelalaaGreatDoorTie.lean); close each card by the builder's one call (the guide's Derived/Test/ToyasCard.lean, 'card_holds'). Laid BY PROGRAM, IN A SANDBOX (cutbox-door.mjs). By AI agents, Wed Nov 11 2026. No macro, syntax, notation, axiom, sorry.
-/
import Derived.Test.YtflcbjljeelalaaGreatDoorRows
import GoSem.ClaimSeven
namespace Go.Proofs.YtflcbjljeelalaaGreatDoor
namespace Rows

/-- THE TIED CARD OF 'laws.FnInt64Val'. -/
def fnInt64ValCard : Claim7 := { stood := { row := fnInt64ValRow, standIns := [], harness := (true, "336c929c616377e3b371e2b8da79ca839ee835f8e793db5f3eca1fc353247dbc"), looks := true }, kinds := [], alts := [], laidByText := true, laidKinds := [.data, .data, .data, .data], laidTests := true, laidLooks := .later }
def FnInt64ValCardSaid : Prop := Claim7.holds Tryz.pinned (.plain (OpenSpec.ofChange fnInt64ValSpec)) fnInt64ValCard

/-- THE TIED CARD OF 'laws.FnBitLen'. -/
def fnBitLenCard : Claim7 := { stood := { row := fnBitLenRow, standIns := [], harness := (true, "336c929c616377e3b371e2b8da79ca839ee835f8e793db5f3eca1fc353247dbc"), looks := true }, kinds := [], alts := [], laidByText := true, laidKinds := [.data, .data, .data, .data], laidTests := true, laidLooks := .later }
def FnBitLenCardSaid : Prop := Claim7.holds Tryz.pinned (.plain (OpenSpec.ofChange fnBitLenSpec)) fnBitLenCard

/-- THE SECOND FORM's CARD OF 'laws.FnInt64Val'. -/
def fnInt64ValUptoCard : Claim7 := { stood := { row := fnInt64ValUptoRow, standIns := [], harness := (true, "336c929c616377e3b371e2b8da79ca839ee835f8e793db5f3eca1fc353247dbc"), looks := true }, kinds := [], alts := [], laidByText := true, laidKinds := [.data, .data, .data, .data], laidTests := true, laidLooks := .later }
def FnInt64ValUptoCardSaid : Prop := Claim7.holds Tryz.pinned (.plain (OpenSpec.upto fnInt64ValSpec)) fnInt64ValUptoCard

/-- THE SECOND FORM's CARD OF 'laws.FnBitLen'. -/
def fnBitLenUptoCard : Claim7 := { stood := { row := fnBitLenUptoRow, standIns := [], harness := (true, "336c929c616377e3b371e2b8da79ca839ee835f8e793db5f3eca1fc353247dbc"), looks := true }, kinds := [], alts := [], laidByText := true, laidKinds := [.data, .data, .data, .data], laidTests := true, laidLooks := .later }
def FnBitLenUptoCardSaid : Prop := Claim7.holds Tryz.pinned (.plain (OpenSpec.upto fnBitLenSpec)) fnBitLenUptoCard
end Rows
end Go.Proofs.YtflcbjljeelalaaGreatDoor
