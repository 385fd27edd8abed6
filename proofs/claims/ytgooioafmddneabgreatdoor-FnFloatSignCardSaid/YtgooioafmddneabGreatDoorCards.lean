/-
  DERIVED. GIVEN WITH THE SEED: THE CARDS: each row of YtgooioafmddneabGreatDoorRows.lean that lists a variable, with what it lists TIED to the program's text (the seventh form; the later family's looks); each row that meets fmt, with fmt's text TOLD by the authors' own Lean function (tested against real Go, not proved from fmt's source: count such statements apart). THE CARD IS WHAT COUNTS. Prove the row's statement (the work); the ties are given (YtgooioafmddneabGreatDoorTie.lean); close each card by the builder's one call (the guide's Derived/Test/ToyasCard.lean, 'card_holds'). Laid BY PROGRAM, IN A SANDBOX (cutbox-door.mjs). By AI agents, Wed Nov 11 2026. No macro, syntax, notation, axiom, sorry.
-/
import Derived.Test.YtgooioafmddneabGreatDoorRows
import GoSem.ClaimSeven
namespace Go.Proofs.YtgooioafmddneabGreatDoor
namespace Rows

/-- THE TIED CARD OF 'laws.FnFloatSign'. -/
def fnFloatSignCard : Claim7 := { stood := { row := fnFloatSignRow, standIns := [], harness := (true, "a7a6f1ac0b7c60184ad92920f4220189265739df8d4c222947269260105080e8"), looks := true }, kinds := [], alts := [], laidByText := true, laidKinds := [.data, .data, .data, .data], laidTests := true, laidLooks := .later }
def FnFloatSignCardSaid : Prop := Claim7.holds Tryz.pinned (.plain (OpenSpec.ofChange fnFloatSignSpec)) fnFloatSignCard

/-- THE SECOND FORM's CARD OF 'laws.FnFloatSign'. -/
def fnFloatSignUptoCard : Claim7 := { stood := { row := fnFloatSignUptoRow, standIns := [], harness := (true, "a7a6f1ac0b7c60184ad92920f4220189265739df8d4c222947269260105080e8"), looks := true }, kinds := [], alts := [], laidByText := true, laidKinds := [.data, .data, .data, .data], laidTests := true, laidLooks := .later }
def FnFloatSignUptoCardSaid : Prop := Claim7.holds Tryz.pinned (.plain (OpenSpec.upto fnFloatSignSpec)) fnFloatSignUptoCard
end Rows
end Go.Proofs.YtgooioafmddneabGreatDoor
