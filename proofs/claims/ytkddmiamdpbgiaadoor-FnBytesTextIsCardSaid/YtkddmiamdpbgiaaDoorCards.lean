/-
  DERIVED. GIVEN WITH THE SEED: THE CARDS: each row of YtkddmiamdpbgiaaDoorRows.lean that lists a variable, with what it lists TIED to the program's text (the seventh form; the later family's looks); each row that meets fmt, with fmt's text TOLD by the authors' own Lean function (tested against real Go, not proved from fmt's source: count such statements apart). THE CARD IS WHAT COUNTS. Prove the row's statement (the work); the ties are given (YtkddmiamdpbgiaaDoorTie.lean); close each card by the builder's one call (the guide's Derived/Test/ToyasCard.lean, 'card_holds'). Laid BY PROGRAM, IN A SANDBOX (cutbox-door.mjs). By AI agents, Wed Nov 11 2026. No macro, syntax, notation, axiom, sorry.
-/
import Derived.Test.YtkddmiamdpbgiaaDoorRows
import GoSem.ClaimSeven
namespace Go.Proofs.YtkddmiamdpbgiaaDoor
namespace Rows

/-- THE TIED CARD OF 'laws.FnPlaceParts'. -/
def fnPlacePartsCard : Claim7 := { stood := { row := fnPlacePartsRow, standIns := [], harness := (true, "0035cbf35c5d717c45c1b27740cbd8b05e9aa7b138eb21c324f9fbc3b2f38ba6"), looks := true }, kinds := [], alts := [], laidByText := true, laidKinds := [.data, .pinned], laidTests := true, laidLooks := .later }
def FnPlacePartsCardSaid : Prop := Claim7.holds Tryd.pinned (.plain (OpenSpec.ofChange fnPlacePartsSpec)) fnPlacePartsCard

/-- THE TIED CARD OF 'laws.FnSplitBoth'. -/
def fnSplitBothCard : Claim7 := { stood := { row := fnSplitBothRow, standIns := [], harness := (true, "0035cbf35c5d717c45c1b27740cbd8b05e9aa7b138eb21c324f9fbc3b2f38ba6"), looks := true }, kinds := [], alts := [], laidByText := true, laidKinds := [.data, .pinned], laidTests := true, laidLooks := .later }
def FnSplitBothCardSaid : Prop := Claim7.holds Tryd.pinned (.plain (OpenSpec.ofChange fnSplitBothSpec)) fnSplitBothCard

/-- THE TIED CARD OF 'laws.FnBytesTextIs'. -/
def fnBytesTextIsCard : Claim7 := { stood := { row := fnBytesTextIsRow, standIns := [], harness := (true, "0035cbf35c5d717c45c1b27740cbd8b05e9aa7b138eb21c324f9fbc3b2f38ba6"), looks := true }, kinds := [], alts := [], laidByText := true, laidKinds := [.data, .pinned, .pinned, .pinned, .pinned, .pinned], laidTests := true, laidLooks := .later }
def FnBytesTextIsCardSaid : Prop := Claim7.holds Tryd.pinned (.plain (OpenSpec.ofChange fnBytesTextIsSpec)) fnBytesTextIsCard

/-- THE TIED CARD OF 'laws.FnPointOrds'. -/
def fnPointOrdsCard : Claim7 := { stood := { row := fnPointOrdsRow, standIns := [], harness := (true, "0035cbf35c5d717c45c1b27740cbd8b05e9aa7b138eb21c324f9fbc3b2f38ba6"), looks := true }, kinds := [], alts := [], laidByText := true, laidKinds := [.data, .pinned], laidTests := true, laidLooks := .later }
def FnPointOrdsCardSaid : Prop := Claim7.holds Tryd.pinned (.plain (OpenSpec.ofChange fnPointOrdsSpec)) fnPointOrdsCard

/-- THE SECOND FORM's CARD OF 'laws.FnPlaceParts'. -/
def fnPlacePartsUptoCard : Claim7 := { stood := { row := fnPlacePartsUptoRow, standIns := [], harness := (true, "0035cbf35c5d717c45c1b27740cbd8b05e9aa7b138eb21c324f9fbc3b2f38ba6"), looks := true }, kinds := [], alts := [], laidByText := true, laidKinds := [.data, .pinned], laidTests := true, laidLooks := .later }
def FnPlacePartsUptoCardSaid : Prop := Claim7.holds Tryd.pinned (.plain (OpenSpec.upto fnPlacePartsSpec)) fnPlacePartsUptoCard

/-- THE SECOND FORM's CARD OF 'laws.FnSplitBoth'. -/
def fnSplitBothUptoCard : Claim7 := { stood := { row := fnSplitBothUptoRow, standIns := [], harness := (true, "0035cbf35c5d717c45c1b27740cbd8b05e9aa7b138eb21c324f9fbc3b2f38ba6"), looks := true }, kinds := [], alts := [], laidByText := true, laidKinds := [.data, .pinned], laidTests := true, laidLooks := .later }
def FnSplitBothUptoCardSaid : Prop := Claim7.holds Tryd.pinned (.plain (OpenSpec.upto fnSplitBothSpec)) fnSplitBothUptoCard

/-- THE SECOND FORM's CARD OF 'laws.FnBytesTextIs'. -/
def fnBytesTextIsUptoCard : Claim7 := { stood := { row := fnBytesTextIsUptoRow, standIns := [], harness := (true, "0035cbf35c5d717c45c1b27740cbd8b05e9aa7b138eb21c324f9fbc3b2f38ba6"), looks := true }, kinds := [], alts := [], laidByText := true, laidKinds := [.data, .pinned, .pinned, .pinned, .pinned, .pinned], laidTests := true, laidLooks := .later }
def FnBytesTextIsUptoCardSaid : Prop := Claim7.holds Tryd.pinned (.plain (OpenSpec.upto fnBytesTextIsSpec)) fnBytesTextIsUptoCard

/-- THE SECOND FORM's CARD OF 'laws.FnPointOrds'. -/
def fnPointOrdsUptoCard : Claim7 := { stood := { row := fnPointOrdsUptoRow, standIns := [], harness := (true, "0035cbf35c5d717c45c1b27740cbd8b05e9aa7b138eb21c324f9fbc3b2f38ba6"), looks := true }, kinds := [], alts := [], laidByText := true, laidKinds := [.data, .pinned], laidTests := true, laidLooks := .later }
def FnPointOrdsUptoCardSaid : Prop := Claim7.holds Tryd.pinned (.plain (OpenSpec.upto fnPointOrdsSpec)) fnPointOrdsUptoCard
end Rows
end Go.Proofs.YtkddmiamdpbgiaaDoor
