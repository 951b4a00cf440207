/-
  DERIVED. GIVEN WITH THE SEED: THE CARDS: each row of YtghendoiohfolaaGreatDoorRows.lean that lists a variable, with what it lists TIED to the program's text (the seventh form; the later family's looks); each row that meets fmt, with fmt's text TOLD by the authors' own Lean function (tested against real Go, not proved from fmt's source: count such statements apart). THE CARD IS WHAT COUNTS. Prove the row's statement (the work); the ties are given (YtghendoiohfolaaGreatDoorTie.lean); close each card by the builder's one call (the guide's Derived/Test/ToyasCard.lean, 'card_holds'). Laid BY PROGRAM, IN A SANDBOX (cutbox-door.mjs). By AI agents, Wed Nov 11 2026. No macro, syntax, notation, axiom, sorry.
-/
import Derived.Test.YtghendoiohfolaaGreatDoorRows
import GoSem.ClaimSeven
namespace Go.Proofs.YtghendoiohfolaaGreatDoor
namespace Rows

/-- THE TIED CARD OF 'laws.FnUnquoted'. -/
def fnUnquotedCard : Claim7 := { stood := { row := fnUnquotedRow, standIns := [], harness := (true, "a3d68750e1851eb40697e93d0c8bd68fed4d422d4e2d82faec1e2ee365aa6434"), looks := true }, kinds := [], alts := [], laidByText := true, laidKinds := [.data, .data, .data, .data, .sentinel, .sentinel, .data, .pinned], laidTests := true, laidLooks := .later }
def FnUnquotedCardSaid : Prop := Claim7.holds Tryz.pinned (.plain (OpenSpec.ofChange fnUnquotedSpec)) fnUnquotedCard

/-- THE SECOND FORM's CARD OF 'laws.FnUnquoted'. -/
def fnUnquotedUptoCard : Claim7 := { stood := { row := fnUnquotedUptoRow, standIns := [], harness := (true, "a3d68750e1851eb40697e93d0c8bd68fed4d422d4e2d82faec1e2ee365aa6434"), looks := true }, kinds := [], alts := [], laidByText := true, laidKinds := [.data, .data, .data, .data, .sentinel, .sentinel, .data, .pinned], laidTests := true, laidLooks := .later }
def FnUnquotedUptoCardSaid : Prop := Claim7.holds Tryz.pinned (.plain (OpenSpec.upto fnUnquotedSpec)) fnUnquotedUptoCard
end Rows
end Go.Proofs.YtghendoiohfolaaGreatDoor
