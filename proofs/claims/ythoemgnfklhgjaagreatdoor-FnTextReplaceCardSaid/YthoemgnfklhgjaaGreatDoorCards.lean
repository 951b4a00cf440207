/-
  DERIVED. GIVEN WITH THE SEED: THE CARDS: each row of YthoemgnfklhgjaaGreatDoorRows.lean that lists a variable, with what it lists TIED to the program's text (the seventh form; the later family's looks); each row that meets fmt, with fmt's text TOLD by the authors' own Lean function (tested against real Go, not proved from fmt's source: count such statements apart). THE CARD IS WHAT COUNTS. Prove the row's statement (the work); the ties are given (YthoemgnfklhgjaaGreatDoorTie.lean); close each card by the builder's one call (the guide's Derived/Test/ToyasCard.lean, 'card_holds'). Laid BY PROGRAM, IN A SANDBOX (cutbox-door.mjs). By AI agents, Wed Nov 11 2026. No macro, syntax, notation, axiom, sorry.
-/
import Derived.Test.YthoemgnfklhgjaaGreatDoorRows
import GoSem.ClaimSeven
namespace Go.Proofs.YthoemgnfklhgjaaGreatDoor
namespace Rows

/-- THE TIED CARD OF 'laws.FnTextReplace'. -/
def fnTextReplaceCard : Claim7 := { stood := { row := fnTextReplaceRow, standIns := [], harness := (true, "5a6d8141dd890ff1d709a8026b2032dd8b80d3ce9fcb370c07a9557dc5335b0f"), looks := true }, kinds := [], alts := [], laidByText := true, laidKinds := [.data, .pinned], laidTests := true, laidLooks := .later }
def FnTextReplaceCardSaid : Prop := Claim7.holds Tryz.pinned (.plain (OpenSpec.ofChange fnTextReplaceSpec)) fnTextReplaceCard

/-- THE SECOND FORM's CARD OF 'laws.FnTextReplace'. -/
def fnTextReplaceUptoCard : Claim7 := { stood := { row := fnTextReplaceUptoRow, standIns := [], harness := (true, "5a6d8141dd890ff1d709a8026b2032dd8b80d3ce9fcb370c07a9557dc5335b0f"), looks := true }, kinds := [], alts := [], laidByText := true, laidKinds := [.data, .pinned], laidTests := true, laidLooks := .later }
def FnTextReplaceUptoCardSaid : Prop := Claim7.holds Tryz.pinned (.plain (OpenSpec.upto fnTextReplaceSpec)) fnTextReplaceUptoCard
end Rows
end Go.Proofs.YthoemgnfklhgjaaGreatDoor
