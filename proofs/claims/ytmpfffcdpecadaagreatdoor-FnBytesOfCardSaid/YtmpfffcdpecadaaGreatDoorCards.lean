/-
  DERIVED. GIVEN WITH THE SEED: THE CARDS: each row of YtmpfffcdpecadaaGreatDoorRows.lean that lists a variable, with what it lists TIED to the program's text (the seventh form; the later family's looks); each row that meets fmt, with fmt's text TOLD by the authors' own Lean function (tested against real Go, not proved from fmt's source: count such statements apart). THE CARD IS WHAT COUNTS. Prove the row's statement (the work); the ties are given (YtmpfffcdpecadaaGreatDoorTie.lean); close each card by the builder's one call (the guide's Derived/Test/ToyasCard.lean, 'card_holds'). Laid BY PROGRAM, IN A SANDBOX (cutbox-door.mjs). By AI agents, Wed Nov 11 2026. No macro, syntax, notation, axiom, sorry.
-/
import Derived.Test.YtmpfffcdpecadaaGreatDoorRows
import GoSem.ClaimSeven
namespace Go.Proofs.YtmpfffcdpecadaaGreatDoor
namespace Rows

/-- THE TIED CARD OF 'laws.FnBytesOf'. -/
def fnBytesOfCard : Claim7 := { stood := { row := fnBytesOfRow, standIns := [], harness := (true, "3fd58638d26a7dcc112e93707ec649e15110ff2d13f32039ba87b33cd2b9451a"), looks := true }, kinds := [], alts := [], laidByText := true, laidKinds := [.data, .pinned], laidTests := true, laidLooks := .later }
def FnBytesOfCardSaid : Prop := Claim7.holds Tryz.pinned (.plain (OpenSpec.ofChange fnBytesOfSpec)) fnBytesOfCard

/-- THE SECOND FORM's CARD OF 'laws.FnBytesOf'. -/
def fnBytesOfUptoCard : Claim7 := { stood := { row := fnBytesOfUptoRow, standIns := [], harness := (true, "3fd58638d26a7dcc112e93707ec649e15110ff2d13f32039ba87b33cd2b9451a"), looks := true }, kinds := [], alts := [], laidByText := true, laidKinds := [.data, .pinned], laidTests := true, laidLooks := .later }
def FnBytesOfUptoCardSaid : Prop := Claim7.holds Tryz.pinned (.plain (OpenSpec.upto fnBytesOfSpec)) fnBytesOfUptoCard
end Rows
end Go.Proofs.YtmpfffcdpecadaaGreatDoor
