/-
  DERIVED. GIVEN WITH THE SEED: THE CARDS: each row of YteibkaonofkcbaaGreatDoorRows.lean that lists a variable, with what it lists TIED to the program's text (the seventh form; the later family's looks); each row that meets fmt, with fmt's text TOLD by the authors' own Lean function (tested against real Go, not proved from fmt's source: count such statements apart). THE CARD IS WHAT COUNTS. Prove the row's statement (the work); the ties are given (YteibkaonofkcbaaGreatDoorTie.lean); close each card by the builder's one call (the guide's Derived/Test/ToyasCard.lean, 'card_holds'). Laid BY PROGRAM, IN A SANDBOX (cutbox-door.mjs). By AI agents, Wed Nov 11 2026. No macro, syntax, notation, axiom, sorry.
-/
import Derived.Test.YteibkaonofkcbaaGreatDoorRows
import GoSem.ClaimSeven
namespace Go.Proofs.YteibkaonofkcbaaGreatDoor
namespace Rows

/-- THE TIED CARD OF 'laws.FnTextBack'. -/
def fnTextBackCard : Claim7 := { stood := { row := fnTextBackRow, standIns := [], harness := (true, "5b3d26c8e937d16d5d20f61820005895f8e351c50b6840c9f425f5326b756e8d"), looks := true }, kinds := [], alts := [], laidByText := true, laidKinds := [.data, .pinned], laidTests := true, laidLooks := .later }
def FnTextBackCardSaid : Prop := Claim7.holds Tryz.pinned (.plain (OpenSpec.ofChange fnTextBackSpec)) fnTextBackCard

/-- THE SECOND FORM's CARD OF 'laws.FnTextBack'. -/
def fnTextBackUptoCard : Claim7 := { stood := { row := fnTextBackUptoRow, standIns := [], harness := (true, "5b3d26c8e937d16d5d20f61820005895f8e351c50b6840c9f425f5326b756e8d"), looks := true }, kinds := [], alts := [], laidByText := true, laidKinds := [.data, .pinned], laidTests := true, laidLooks := .later }
def FnTextBackUptoCardSaid : Prop := Claim7.holds Tryz.pinned (.plain (OpenSpec.upto fnTextBackSpec)) fnTextBackUptoCard
end Rows
end Go.Proofs.YteibkaonofkcbaaGreatDoor
