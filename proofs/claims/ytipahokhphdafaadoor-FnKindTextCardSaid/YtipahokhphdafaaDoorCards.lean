/-
  DERIVED. GIVEN WITH THE SEED: THE CARDS: each row of YtipahokhphdafaaDoorRows.lean that lists a variable, with what it lists TIED to the program's text (the seventh form; the later family's looks); each row that meets fmt, with fmt's text TOLD by the authors' own Lean function (tested against real Go, not proved from fmt's source: count such statements apart). THE CARD IS WHAT COUNTS. Prove the row's statement (the work); the ties are given (YtipahokhphdafaaDoorTie.lean); close each card by the builder's one call (the guide's Derived/Test/ToyasCard.lean, 'card_holds'). Laid BY PROGRAM, IN A SANDBOX (cutbox-door.mjs). By AI agents, Wed Nov 11 2026. No macro, syntax, notation, axiom, sorry.
-/
import Derived.Test.YtipahokhphdafaaDoorRows
import GoSem.ClaimSeven
namespace Go.Proofs.YtipahokhphdafaaDoor
namespace Rows

/-- THE TIED CARD OF 'laws.FnKindText'. -/
def fnKindTextCard : Claim7 := { stood := { row := fnKindTextRow, standIns := [], harness := (true, "ce97b8bd4921f13e00dfca29725c04a0123fb866838d5c886fa58dbd80a6a103"), looks := false }, kinds := [], alts := [], laidByText := true, laidKinds := [.data, .data, .data, .data], laidTests := true, laidLooks := .later }
def FnKindTextCardSaid : Prop := Claim7.holds Tryd.pinned (.plain (OpenSpec.ofChange fnKindTextSpec)) fnKindTextCard

/-- THE SECOND FORM's CARD OF 'laws.FnKindText'. -/
def fnKindTextUptoCard : Claim7 := { stood := { row := fnKindTextUptoRow, standIns := [], harness := (true, "ce97b8bd4921f13e00dfca29725c04a0123fb866838d5c886fa58dbd80a6a103"), looks := false }, kinds := [], alts := [], laidByText := true, laidKinds := [.data, .data, .data, .data], laidTests := true, laidLooks := .later }
def FnKindTextUptoCardSaid : Prop := Claim7.holds Tryd.pinned (.plain (OpenSpec.upto fnKindTextSpec)) fnKindTextUptoCard
end Rows
end Go.Proofs.YtipahokhphdafaaDoor
