/-
  DERIVED. GIVEN WITH THE SEED: THE CARDS: each row of YtgooioafmddneacGreatDoorRows.lean that lists a variable, with what it lists TIED to the program's text (the seventh form; the later family's looks); each row that meets fmt, with fmt's text TOLD by the authors' own Lean function (tested against real Go, not proved from fmt's source: count such statements apart). THE CARD IS WHAT COUNTS. Prove the row's statement (the work); the ties are given (YtgooioafmddneacGreatDoorTie.lean); close each card by the builder's one call (the guide's Derived/Test/ToyasCard.lean, 'card_holds'). Laid BY PROGRAM, IN A SANDBOX (cutbox-door.mjs). By AI agents, Wed Nov 11 2026. No macro, syntax, notation, axiom, sorry.
-/
import Derived.Test.YtgooioafmddneacGreatDoorRows
import GoSem.ClaimSeven
namespace Go.Proofs.YtgooioafmddneacGreatDoor
namespace Rows

/-- THE TIED CARD OF 'laws.FnFromBytes'. -/
def fnFromBytesCard : Claim7 := { stood := { row := fnFromBytesRow, standIns := [], harness := (true, "e1d1c6628f2978ccfa78158bd3e9d41bdf2ca25ebc579b556974934645723e82"), looks := true }, kinds := [], alts := [], laidByText := true, laidKinds := [.data, .data, .data, .data], laidTests := true, laidLooks := .later }
def FnFromBytesCardSaid : Prop := Claim7.holds Tryz.pinned (.plain (OpenSpec.ofChange fnFromBytesSpec)) fnFromBytesCard

/-- THE SECOND FORM's CARD OF 'laws.FnFromBytes'. -/
def fnFromBytesUptoCard : Claim7 := { stood := { row := fnFromBytesUptoRow, standIns := [], harness := (true, "e1d1c6628f2978ccfa78158bd3e9d41bdf2ca25ebc579b556974934645723e82"), looks := true }, kinds := [], alts := [], laidByText := true, laidKinds := [.data, .data, .data, .data], laidTests := true, laidLooks := .later }
def FnFromBytesUptoCardSaid : Prop := Claim7.holds Tryz.pinned (.plain (OpenSpec.upto fnFromBytesSpec)) fnFromBytesUptoCard
end Rows
end Go.Proofs.YtgooioafmddneacGreatDoor
