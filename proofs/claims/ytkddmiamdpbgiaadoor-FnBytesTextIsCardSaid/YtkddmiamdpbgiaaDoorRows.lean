/-
  NARROWER THAN 'FOR EVERY INPUT', by the rows' own cells (each row's printed sentence says how): FnPlaceParts: laid · FnSplitBoth: laid · FnBytesTextIs: laid · FnPointOrds: laid.
  DERIVED. THE GIVEN ROWS OF THIS SEAT. 4 by the template 'for every input the law returns true; each argument reads behind the call as it read before'; 0 by the template 'total and deterministic' (their statements: YtkddmiamdpbgiaaDoorTotals.lean).
  GIVEN WITH THE SEED: the statements are not yours to turn. If you find one false, say at which input.
  Laid BY PROGRAM, IN A SANDBOX (cutbox-rows.mjs): the forced cells as the released guide's own fill.sh prints them over the translation c77ff3b0f487b9d2… (all of the seat's roots in one cut). By AI agents, Wed Nov 11 2026. No macro, syntax, notation, axiom, sorry.
-/
import Derived.Test.YtkddmiamdpbgiaaDoorChecked
import GoSem.PinnedTables
import GoSem.Claim
import GoSem.ClaimJoined
import GoSem.ClaimMapViews
import Derived.JoinedTies
import Derived.KernelRfl
namespace Go.Proofs.YtkddmiamdpbgiaaDoor
/- THE CELL 'sum', in the pinned program and in every row, IS THE sha256 OF THE DUMP (.gsa) THAT YtkddmiamdpbgiaaDoorProg.lean LOADS. Nothing in Lean hashes anything: it is a label: what it is worth is what the hold of that sum in a sandbox is worth. -/
noncomputable def Tryd.pinned : Pinned := { name := "ytkddmiamdpbgiaadoor", sum := "c77ff3b0f487b9d22679f38a87b7799377d0c46023e3c4c3f1cad5a07e0e28c3", checked := Tryd.checked }
namespace Rows
def none {H : Type} : Left H := { results := [], args := [] }

/- WHAT THE LISTED PACKAGE-LEVEL VARIABLES READ AS WHEN THE CALL BEGINS. Each datum BY PROGRAM (the guide's laid-datum.mjs) off the statement by which the dump's own 'gosem.cut.vars' lays the variable. In a bare row this is a premise. The card (YtkddmiamdpbgiaaDoorCards.lean) ties it to the program's text. -/
def laid_unicode_utf8_acceptRanges {H : Type} : DataW H := .agg [.agg [.lit (.int .u8 128), .lit (.int .u8 191)], .agg [.lit (.int .u8 160), .lit (.int .u8 191)], .agg [.lit (.int .u8 128), .lit (.int .u8 159)], .agg [.lit (.int .u8 144), .lit (.int .u8 191)], .agg [.lit (.int .u8 128), .lit (.int .u8 143)], .agg [.lit (.int .u8 0), .lit (.int .u8 0)], .agg [.lit (.int .u8 0), .lit (.int .u8 0)], .agg [.lit (.int .u8 0), .lit (.int .u8 0)], .agg [.lit (.int .u8 0), .lit (.int .u8 0)], .agg [.lit (.int .u8 0), .lit (.int .u8 0)], .agg [.lit (.int .u8 0), .lit (.int .u8 0)], .agg [.lit (.int .u8 0), .lit (.int .u8 0)], .agg [.lit (.int .u8 0), .lit (.int .u8 0)], .agg [.lit (.int .u8 0), .lit (.int .u8 0)], .agg [.lit (.int .u8 0), .lit (.int .u8 0)], .agg [.lit (.int .u8 0), .lit (.int .u8 0)]]
/-- One of Go's own tables, pinned by name: the form's constant. -/
def laid_unicode_utf8_first : DataW Unit := Go.Pinned.utf8First
/-- One of Go's own tables, pinned by name: the form's constant. -/
def laid_strconv_isNotPrint16 : DataW Unit := Go.Pinned.isNotPrint16
/-- One of Go's own tables, pinned by name: the form's constant. -/
def laid_strconv_isNotPrint32 : DataW Unit := Go.Pinned.isNotPrint32
/-- One of Go's own tables, pinned by name: the form's constant. -/
def laid_strconv_isPrint16 : DataW Unit := Go.Pinned.isPrint16
/-- One of Go's own tables, pinned by name: the form's constant. -/
def laid_strconv_isPrint32 : DataW Unit := Go.Pinned.isPrint32

/-- 'laws.FnPlaceParts': WHATEVER THE INPUT: true; the input reads as it did. -/
def fnPlacePartsSpec : ChangeSpec := { name := "fnPlaceParts", fn := fun _ => fun
  | [d1, d2, d3, d4] => { results := [.lit (.bool true)], args := [d1, d2, d3, d4] }
  | _ => none }
def fnPlacePartsRow : OpenClaim := { program := "ytkddmiamdpbgiaadoor", sum := "c77ff3b0f487b9d22679f38a87b7799377d0c46023e3c4c3f1cad5a07e0e28c3", func := "given.example/pub-larkspur/laws.FnPlaceParts", spec := "fnPlaceParts", named := ["unicode/utf8.first", "unicode/utf8.acceptRanges"], apart := false, laid := [("unicode/utf8.acceptRanges", laid_unicode_utf8_acceptRanges), ("unicode/utf8.first", laid_unicode_utf8_first)] }
def FnPlacePartsSaid : Prop := fnPlacePartsRow.holds Tryd.pinned (OpenSpec.ofChange fnPlacePartsSpec)

/-- ITS FALSE NEIGHBOUR: 'it returns false'. Refute it at one input. -/
def fnPlacePartsWrong : ChangeSpec := { name := "fnPlaceParts", fn := fun _ => fun
  | [d1, d2, d3, d4] => { results := [.lit (.bool false)], args := [d1, d2, d3, d4] }
  | _ => none }
def FnPlacePartsWrongFalsely : Prop := fnPlacePartsRow.holds Tryd.pinned (OpenSpec.ofChange fnPlacePartsWrong)

/-- 'laws.FnSplitBoth': WHATEVER THE INPUT: true; the input reads as it did. -/
def fnSplitBothSpec : ChangeSpec := { name := "fnSplitBoth", fn := fun _ => fun
  | [d] => { results := [.lit (.bool true)], args := [d] }
  | _ => none }
def fnSplitBothRow : OpenClaim := { program := "ytkddmiamdpbgiaadoor", sum := "c77ff3b0f487b9d22679f38a87b7799377d0c46023e3c4c3f1cad5a07e0e28c3", func := "given.example/pub-larkspur/laws.FnSplitBoth", spec := "fnSplitBoth", named := ["unicode/utf8.first", "unicode/utf8.acceptRanges"], apart := false, laid := [("unicode/utf8.acceptRanges", laid_unicode_utf8_acceptRanges), ("unicode/utf8.first", laid_unicode_utf8_first)] }
def FnSplitBothSaid : Prop := fnSplitBothRow.holds Tryd.pinned (OpenSpec.ofChange fnSplitBothSpec)

/-- ITS FALSE NEIGHBOUR: 'it returns false'. Refute it at one input. -/
def fnSplitBothWrong : ChangeSpec := { name := "fnSplitBoth", fn := fun _ => fun
  | [d] => { results := [.lit (.bool false)], args := [d] }
  | _ => none }
def FnSplitBothWrongFalsely : Prop := fnSplitBothRow.holds Tryd.pinned (OpenSpec.ofChange fnSplitBothWrong)

/-- 'laws.FnBytesTextIs': WHATEVER THE INPUT: true; the input reads as it did. -/
def fnBytesTextIsSpec : ChangeSpec := { name := "fnBytesTextIs", fn := fun _ => fun
  | [d] => { results := [.lit (.bool true)], args := [d] }
  | _ => none }
def fnBytesTextIsRow : OpenClaim := { program := "ytkddmiamdpbgiaadoor", sum := "c77ff3b0f487b9d22679f38a87b7799377d0c46023e3c4c3f1cad5a07e0e28c3", func := "given.example/pub-larkspur/laws.FnBytesTextIs", spec := "fnBytesTextIs", named := ["unicode/utf8.first", "unicode/utf8.acceptRanges", "strconv.isPrint16", "strconv.isNotPrint16", "strconv.isPrint32", "strconv.isNotPrint32"], apart := false, laid := [("unicode/utf8.acceptRanges", laid_unicode_utf8_acceptRanges), ("strconv.isNotPrint16", laid_strconv_isNotPrint16), ("strconv.isNotPrint32", laid_strconv_isNotPrint32), ("strconv.isPrint16", laid_strconv_isPrint16), ("strconv.isPrint32", laid_strconv_isPrint32), ("unicode/utf8.first", laid_unicode_utf8_first)] }
def FnBytesTextIsSaid : Prop := fnBytesTextIsRow.holds Tryd.pinned (OpenSpec.ofChange fnBytesTextIsSpec)

/-- ITS FALSE NEIGHBOUR: 'it returns false'. Refute it at one input. -/
def fnBytesTextIsWrong : ChangeSpec := { name := "fnBytesTextIs", fn := fun _ => fun
  | [d] => { results := [.lit (.bool false)], args := [d] }
  | _ => none }
def FnBytesTextIsWrongFalsely : Prop := fnBytesTextIsRow.holds Tryd.pinned (OpenSpec.ofChange fnBytesTextIsWrong)

/-- 'laws.FnPointOrds': WHATEVER THE INPUT: true; the input reads as it did. -/
def fnPointOrdsSpec : ChangeSpec := { name := "fnPointOrds", fn := fun _ => fun
  | [d] => { results := [.lit (.bool true)], args := [d] }
  | _ => none }
def fnPointOrdsRow : OpenClaim := { program := "ytkddmiamdpbgiaadoor", sum := "c77ff3b0f487b9d22679f38a87b7799377d0c46023e3c4c3f1cad5a07e0e28c3", func := "given.example/pub-larkspur/laws.FnPointOrds", spec := "fnPointOrds", named := ["unicode/utf8.first", "unicode/utf8.acceptRanges"], apart := false, laid := [("unicode/utf8.acceptRanges", laid_unicode_utf8_acceptRanges), ("unicode/utf8.first", laid_unicode_utf8_first)] }
def FnPointOrdsSaid : Prop := fnPointOrdsRow.holds Tryd.pinned (OpenSpec.ofChange fnPointOrdsSpec)

/-- ITS FALSE NEIGHBOUR: 'it returns false'. Refute it at one input. -/
def fnPointOrdsWrong : ChangeSpec := { name := "fnPointOrds", fn := fun _ => fun
  | [d] => { results := [.lit (.bool false)], args := [d] }
  | _ => none }
def FnPointOrdsWrongFalsely : Prop := fnPointOrdsRow.holds Tryd.pinned (OpenSpec.ofChange fnPointOrdsWrong)

/- THE SECOND FORM. 'bulk': how many values and letters a reading holds, each counted each time it is reached (what is shared counts as often as it is met; a slice's spare places count too). A statement '..UptoSaid' is the law's where the arguments, and the package variables that the reading takes, are together of bulk at most 1048576: NARROWER than '..Said'. Prove '..Said' where nothing that the law and all that it calls make is longer than what came in: it says more and counts as full. Else prove '..UptoSaid'. A law counts once. -/
mutual
def uptoBulk {H : Type} : DataW H → Nat
  | .lit (.string bytes) => bytes.length + 1
  | .lit _ => 1
  | .nil => 1
  | .ptr d => uptoBulk d + 1
  | .slice elems spare => uptoBulkAll elems + uptoBulkAll spare + 1
  | .agg parts => uptoBulkAll parts + 1
  | .iface _ d => uptoBulk d + 1
  | .map entries => uptoBulkEntries entries + 1
  | .held _ => 1
def uptoBulkAll {H : Type} : List (DataW H) → Nat
  | [] => 0
  | d :: r => uptoBulk d + uptoBulkAll r
def uptoBulkEntries {H : Type} : List (Lit × DataW H) → Nat
  | [] => 0
  | x :: r => uptoBulkEntry x + uptoBulkEntries r
def uptoBulkEntry {H : Type} : Lit × DataW H → Nat
  | (.string bytes, d) => bytes.length + uptoBulk d + 1
  | (_, d) => uptoBulk d + 1
 end
def uptoSmall : (H : Type) → List (DataW H) → Bool := fun _ ds => decide (uptoBulkAll ds ≤ 1048576)
def OpenSpec.upto (s : _root_.Go.ChangeSpec) : _root_.Go.OpenSpec := { _root_.Go.OpenSpec.ofChange s with cond := some uptoSmall }

/-- 'laws.FnPlaceParts', WHERE WHAT IT READS IS OF BULK AT MOST 1048576: true; the input reads as it did. -/
def fnPlacePartsUptoRow : OpenClaim := { program := "ytkddmiamdpbgiaadoor", sum := "c77ff3b0f487b9d22679f38a87b7799377d0c46023e3c4c3f1cad5a07e0e28c3", func := "given.example/pub-larkspur/laws.FnPlaceParts", spec := "fnPlaceParts", named := ["unicode/utf8.first", "unicode/utf8.acceptRanges"], apart := false, laid := [("unicode/utf8.acceptRanges", laid_unicode_utf8_acceptRanges), ("unicode/utf8.first", laid_unicode_utf8_first)], narrowed := true }
def FnPlacePartsUptoSaid : Prop := fnPlacePartsUptoRow.holds Tryd.pinned (OpenSpec.upto fnPlacePartsSpec)

/-- 'laws.FnSplitBoth', WHERE WHAT IT READS IS OF BULK AT MOST 1048576: true; the input reads as it did. -/
def fnSplitBothUptoRow : OpenClaim := { program := "ytkddmiamdpbgiaadoor", sum := "c77ff3b0f487b9d22679f38a87b7799377d0c46023e3c4c3f1cad5a07e0e28c3", func := "given.example/pub-larkspur/laws.FnSplitBoth", spec := "fnSplitBoth", named := ["unicode/utf8.first", "unicode/utf8.acceptRanges"], apart := false, laid := [("unicode/utf8.acceptRanges", laid_unicode_utf8_acceptRanges), ("unicode/utf8.first", laid_unicode_utf8_first)], narrowed := true }
def FnSplitBothUptoSaid : Prop := fnSplitBothUptoRow.holds Tryd.pinned (OpenSpec.upto fnSplitBothSpec)

/-- 'laws.FnBytesTextIs', WHERE WHAT IT READS IS OF BULK AT MOST 1048576: true; the input reads as it did. -/
def fnBytesTextIsUptoRow : OpenClaim := { program := "ytkddmiamdpbgiaadoor", sum := "c77ff3b0f487b9d22679f38a87b7799377d0c46023e3c4c3f1cad5a07e0e28c3", func := "given.example/pub-larkspur/laws.FnBytesTextIs", spec := "fnBytesTextIs", named := ["unicode/utf8.first", "unicode/utf8.acceptRanges", "strconv.isPrint16", "strconv.isNotPrint16", "strconv.isPrint32", "strconv.isNotPrint32"], apart := false, laid := [("unicode/utf8.acceptRanges", laid_unicode_utf8_acceptRanges), ("strconv.isNotPrint16", laid_strconv_isNotPrint16), ("strconv.isNotPrint32", laid_strconv_isNotPrint32), ("strconv.isPrint16", laid_strconv_isPrint16), ("strconv.isPrint32", laid_strconv_isPrint32), ("unicode/utf8.first", laid_unicode_utf8_first)], narrowed := true }
def FnBytesTextIsUptoSaid : Prop := fnBytesTextIsUptoRow.holds Tryd.pinned (OpenSpec.upto fnBytesTextIsSpec)

/-- 'laws.FnPointOrds', WHERE WHAT IT READS IS OF BULK AT MOST 1048576: true; the input reads as it did. -/
def fnPointOrdsUptoRow : OpenClaim := { program := "ytkddmiamdpbgiaadoor", sum := "c77ff3b0f487b9d22679f38a87b7799377d0c46023e3c4c3f1cad5a07e0e28c3", func := "given.example/pub-larkspur/laws.FnPointOrds", spec := "fnPointOrds", named := ["unicode/utf8.first", "unicode/utf8.acceptRanges"], apart := false, laid := [("unicode/utf8.acceptRanges", laid_unicode_utf8_acceptRanges), ("unicode/utf8.first", laid_unicode_utf8_first)], narrowed := true }
def FnPointOrdsUptoSaid : Prop := fnPointOrdsUptoRow.holds Tryd.pinned (OpenSpec.upto fnPointOrdsSpec)

end Rows
end Go.Proofs.YtkddmiamdpbgiaaDoor
