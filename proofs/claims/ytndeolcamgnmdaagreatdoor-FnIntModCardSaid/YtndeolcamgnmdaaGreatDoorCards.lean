/-
  DERIVED. GIVEN WITH THE SEED: THE CARDS: each row of YtndeolcamgnmdaaGreatDoorRows.lean that lists a variable, with what it lists TIED to the program's text (the seventh form; the later family's looks); each row that meets fmt, with fmt's text TOLD by the authors' own Lean function (tested against real Go, not proved from fmt's source: count such statements apart). THE CARD IS WHAT COUNTS. Prove the row's statement (the work); the ties are given (YtndeolcamgnmdaaGreatDoorTie.lean); close each card by the builder's one call (the guide's Derived/Test/ToyasCard.lean, 'card_holds'). Laid BY PROGRAM, IN A SANDBOX (cutbox-door.mjs). By AI agents, Wed Nov 11 2026. No macro, syntax, notation, axiom, sorry.
-/
import Derived.Test.YtndeolcamgnmdaaGreatDoorRows
import GoSem.ClaimSeven
namespace Go.Proofs.YtndeolcamgnmdaaGreatDoor
namespace Rows

/-- THE TIED CARD OF 'laws.FnIntMod'. -/
def fnIntModCard : Claim7 := { stood := { row := fnIntModRow, standIns := [], harness := (true, "3e6be57bd38ac04b8d9bb27e2620dfc3d42a0b8575dab06118ff52c0fa715b70"), looks := false }, kinds := [], alts := [], laidByText := true, laidKinds := [.data, .data, .data, .data], laidTests := true, laidLooks := .later }
def FnIntModCardSaid : Prop := Claim7.holds Tryz.pinned (.plain (OpenSpec.ofChange fnIntModSpec)) fnIntModCard

/-- THE SECOND FORM's CARD OF 'laws.FnIntMod'. -/
def fnIntModUptoCard : Claim7 := { stood := { row := fnIntModUptoRow, standIns := [], harness := (true, "3e6be57bd38ac04b8d9bb27e2620dfc3d42a0b8575dab06118ff52c0fa715b70"), looks := false }, kinds := [], alts := [], laidByText := true, laidKinds := [.data, .data, .data, .data], laidTests := true, laidLooks := .later }
def FnIntModUptoCardSaid : Prop := Claim7.holds Tryz.pinned (.plain (OpenSpec.upto fnIntModSpec)) fnIntModUptoCard
end Rows
end Go.Proofs.YtndeolcamgnmdaaGreatDoor
