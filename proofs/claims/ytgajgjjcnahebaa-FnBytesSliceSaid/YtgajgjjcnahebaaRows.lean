/-
  No cell of these rows narrows 'for every input' (looked for: loops, veiled, ifaces, maps, wideKeys, modest, calm, conditions, laid).
  DERIVED. THE GIVEN ROWS OF THIS SEAT. 5 by the template 'for every input the law returns true; each argument reads behind the call as it read before'; 0 by the template 'total and deterministic' (their statements: YtgajgjjcnahebaaTotals.lean).
  GIVEN WITH THE SEED: the statements are not yours to turn. If you find one false, say at which input.
  Laid BY PROGRAM, IN A SANDBOX (cutbox-rows.mjs): the forced cells as the released guide's own fill.sh prints them over the translation 6ae5208a1050a92d… (all of the seat's roots in one cut). By AI agents, Wed Nov 11 2026. No macro, syntax, notation, axiom, sorry.
-/
import Derived.Test.YtgajgjjcnahebaaChecked
import GoSem.Claim
import GoSem.ClaimJoined
import GoSem.ClaimMapViews
import Derived.JoinedTies
import Derived.KernelRfl
namespace Go.Proofs.Ytgajgjjcnahebaa
/- THE CELL 'sum', in the pinned program and in every row, IS THE sha256 OF THE DUMP (.gsa) THAT YtgajgjjcnahebaaProg.lean LOADS. Nothing in Lean hashes anything: it is a label: what it is worth is what the hold of that sum in a sandbox is worth. -/
noncomputable def Try.pinned : Pinned := { name := "ytgajgjjcnahebaa", sum := "6ae5208a1050a92d09274d205790e9b720330d6ed01d279cca02eb3b47da7739", checked := Try.checked }
namespace Rows
def none {H : Type} : Left H := { results := [], args := [] }

/-- 'laws.FnStringLen': WHATEVER THE INPUT: true; the input reads as it did. -/
def fnStringLenSpec : ChangeSpec := { name := "fnStringLen", fn := fun _ => fun
  | [d] => { results := [.lit (.bool true)], args := [d] }
  | _ => none }
def fnStringLenRow : OpenClaim := { program := "ytgajgjjcnahebaa", sum := "6ae5208a1050a92d09274d205790e9b720330d6ed01d279cca02eb3b47da7739", func := "given.example/pub-larkspur/laws.FnStringLen", spec := "fnStringLen", apart := false }
def FnStringLenSaid : Prop := fnStringLenRow.holds Try.pinned (OpenSpec.ofChange fnStringLenSpec)

/-- ITS FALSE NEIGHBOUR: 'it returns false'. Refute it at one input. -/
def fnStringLenWrong : ChangeSpec := { name := "fnStringLen", fn := fun _ => fun
  | [d] => { results := [.lit (.bool false)], args := [d] }
  | _ => none }
def FnStringLenWrongFalsely : Prop := fnStringLenRow.holds Try.pinned (OpenSpec.ofChange fnStringLenWrong)

/-- 'laws.FnDigits': WHATEVER THE INPUT: true; the input reads as it did. -/
def fnDigitsSpec : ChangeSpec := { name := "fnDigits", fn := fun _ => fun
  | [d] => { results := [.lit (.bool true)], args := [d] }
  | _ => none }
def fnDigitsRow : OpenClaim := { program := "ytgajgjjcnahebaa", sum := "6ae5208a1050a92d09274d205790e9b720330d6ed01d279cca02eb3b47da7739", func := "given.example/pub-larkspur/laws.FnDigits", spec := "fnDigits", apart := false }
def FnDigitsSaid : Prop := fnDigitsRow.holds Try.pinned (OpenSpec.ofChange fnDigitsSpec)

/-- ITS FALSE NEIGHBOUR: 'it returns false'. Refute it at one input. -/
def fnDigitsWrong : ChangeSpec := { name := "fnDigits", fn := fun _ => fun
  | [d] => { results := [.lit (.bool false)], args := [d] }
  | _ => none }
def FnDigitsWrongFalsely : Prop := fnDigitsRow.holds Try.pinned (OpenSpec.ofChange fnDigitsWrong)

/-- 'laws.FnRangeLen': WHATEVER THE INPUT: true; the input reads as it did. -/
def fnRangeLenSpec : ChangeSpec := { name := "fnRangeLen", fn := fun _ => fun
  | [d1, d2, d3] => { results := [.lit (.bool true)], args := [d1, d2, d3] }
  | _ => none }
def fnRangeLenRow : OpenClaim := { program := "ytgajgjjcnahebaa", sum := "6ae5208a1050a92d09274d205790e9b720330d6ed01d279cca02eb3b47da7739", func := "given.example/pub-larkspur/laws.FnRangeLen", spec := "fnRangeLen", apart := false }
def FnRangeLenSaid : Prop := fnRangeLenRow.holds Try.pinned (OpenSpec.ofChange fnRangeLenSpec)

/-- ITS FALSE NEIGHBOUR: 'it returns false'. Refute it at one input. -/
def fnRangeLenWrong : ChangeSpec := { name := "fnRangeLen", fn := fun _ => fun
  | [d1, d2, d3] => { results := [.lit (.bool false)], args := [d1, d2, d3] }
  | _ => none }
def FnRangeLenWrongFalsely : Prop := fnRangeLenRow.holds Try.pinned (OpenSpec.ofChange fnRangeLenWrong)

/-- 'laws.FnBytesHash': WHATEVER THE INPUT: true; the input reads as it did. -/
def fnBytesHashSpec : ChangeSpec := { name := "fnBytesHash", fn := fun _ => fun
  | [d] => { results := [.lit (.bool true)], args := [d] }
  | _ => none }
def fnBytesHashRow : OpenClaim := { program := "ytgajgjjcnahebaa", sum := "6ae5208a1050a92d09274d205790e9b720330d6ed01d279cca02eb3b47da7739", func := "given.example/pub-larkspur/laws.FnBytesHash", spec := "fnBytesHash", apart := false }
def FnBytesHashSaid : Prop := fnBytesHashRow.holds Try.pinned (OpenSpec.ofChange fnBytesHashSpec)

/-- ITS FALSE NEIGHBOUR: 'it returns false'. Refute it at one input. -/
def fnBytesHashWrong : ChangeSpec := { name := "fnBytesHash", fn := fun _ => fun
  | [d] => { results := [.lit (.bool false)], args := [d] }
  | _ => none }
def FnBytesHashWrongFalsely : Prop := fnBytesHashRow.holds Try.pinned (OpenSpec.ofChange fnBytesHashWrong)

/-- 'laws.FnBytesSlice': WHATEVER THE INPUT: true; the input reads as it did. -/
def fnBytesSliceSpec : ChangeSpec := { name := "fnBytesSlice", fn := fun _ => fun
  | [d1, d2, d3, d4] => { results := [.lit (.bool true)], args := [d1, d2, d3, d4] }
  | _ => none }
def fnBytesSliceRow : OpenClaim := { program := "ytgajgjjcnahebaa", sum := "6ae5208a1050a92d09274d205790e9b720330d6ed01d279cca02eb3b47da7739", func := "given.example/pub-larkspur/laws.FnBytesSlice", spec := "fnBytesSlice", apart := false }
def FnBytesSliceSaid : Prop := fnBytesSliceRow.holds Try.pinned (OpenSpec.ofChange fnBytesSliceSpec)

/-- ITS FALSE NEIGHBOUR: 'it returns false'. Refute it at one input. -/
def fnBytesSliceWrong : ChangeSpec := { name := "fnBytesSlice", fn := fun _ => fun
  | [d1, d2, d3, d4] => { results := [.lit (.bool false)], args := [d1, d2, d3, d4] }
  | _ => none }
def FnBytesSliceWrongFalsely : Prop := fnBytesSliceRow.holds Try.pinned (OpenSpec.ofChange fnBytesSliceWrong)

/- THE SECOND FORM. 'bulk': how many values and letters a reading holds, each counted each time it is reached (what is shared counts as often as it is met; a slice's spare places count too). A statement '..UptoSaid' is the law's where the arguments, and the package variables that the reading takes, are together of bulk at most 1048576: NARROWER than '..Said'. Prove '..Said' where nothing that the law and all that it calls make is longer than what came in: it says more and counts as full. Else prove '..UptoSaid'. A law counts once. -/
mutual
def uptoBulk {H : Type} : DataW H → Nat
  | .lit (.string bytes) => bytes.length + 1
  | .lit _ => 1
  | .nil => 1
  | .ptr d => uptoBulk d + 1
  | .slice elems spare => uptoBulkAll elems + uptoBulkAll spare + 1
  | .agg parts => uptoBulkAll parts + 1
  | .iface _ d => uptoBulk d + 1
  | .map entries => uptoBulkEntries entries + 1
  | .held _ => 1
def uptoBulkAll {H : Type} : List (DataW H) → Nat
  | [] => 0
  | d :: r => uptoBulk d + uptoBulkAll r
def uptoBulkEntries {H : Type} : List (Lit × DataW H) → Nat
  | [] => 0
  | x :: r => uptoBulkEntry x + uptoBulkEntries r
def uptoBulkEntry {H : Type} : Lit × DataW H → Nat
  | (.string bytes, d) => bytes.length + uptoBulk d + 1
  | (_, d) => uptoBulk d + 1
 end
def uptoSmall : (H : Type) → List (DataW H) → Bool := fun _ ds => decide (uptoBulkAll ds ≤ 1048576)
def OpenSpec.upto (s : _root_.Go.ChangeSpec) : _root_.Go.OpenSpec := { _root_.Go.OpenSpec.ofChange s with cond := some uptoSmall }

/-- 'laws.FnStringLen', WHERE WHAT IT READS IS OF BULK AT MOST 1048576: true; the input reads as it did. -/
def fnStringLenUptoRow : OpenClaim := { program := "ytgajgjjcnahebaa", sum := "6ae5208a1050a92d09274d205790e9b720330d6ed01d279cca02eb3b47da7739", func := "given.example/pub-larkspur/laws.FnStringLen", spec := "fnStringLen", apart := false, narrowed := true }
def FnStringLenUptoSaid : Prop := fnStringLenUptoRow.holds Try.pinned (OpenSpec.upto fnStringLenSpec)

/-- 'laws.FnDigits', WHERE WHAT IT READS IS OF BULK AT MOST 1048576: true; the input reads as it did. -/
def fnDigitsUptoRow : OpenClaim := { program := "ytgajgjjcnahebaa", sum := "6ae5208a1050a92d09274d205790e9b720330d6ed01d279cca02eb3b47da7739", func := "given.example/pub-larkspur/laws.FnDigits", spec := "fnDigits", apart := false, narrowed := true }
def FnDigitsUptoSaid : Prop := fnDigitsUptoRow.holds Try.pinned (OpenSpec.upto fnDigitsSpec)

/-- 'laws.FnRangeLen', WHERE WHAT IT READS IS OF BULK AT MOST 1048576: true; the input reads as it did. -/
def fnRangeLenUptoRow : OpenClaim := { program := "ytgajgjjcnahebaa", sum := "6ae5208a1050a92d09274d205790e9b720330d6ed01d279cca02eb3b47da7739", func := "given.example/pub-larkspur/laws.FnRangeLen", spec := "fnRangeLen", apart := false, narrowed := true }
def FnRangeLenUptoSaid : Prop := fnRangeLenUptoRow.holds Try.pinned (OpenSpec.upto fnRangeLenSpec)

/-- 'laws.FnBytesHash', WHERE WHAT IT READS IS OF BULK AT MOST 1048576: true; the input reads as it did. -/
def fnBytesHashUptoRow : OpenClaim := { program := "ytgajgjjcnahebaa", sum := "6ae5208a1050a92d09274d205790e9b720330d6ed01d279cca02eb3b47da7739", func := "given.example/pub-larkspur/laws.FnBytesHash", spec := "fnBytesHash", apart := false, narrowed := true }
def FnBytesHashUptoSaid : Prop := fnBytesHashUptoRow.holds Try.pinned (OpenSpec.upto fnBytesHashSpec)

/-- 'laws.FnBytesSlice', WHERE WHAT IT READS IS OF BULK AT MOST 1048576: true; the input reads as it did. -/
def fnBytesSliceUptoRow : OpenClaim := { program := "ytgajgjjcnahebaa", sum := "6ae5208a1050a92d09274d205790e9b720330d6ed01d279cca02eb3b47da7739", func := "given.example/pub-larkspur/laws.FnBytesSlice", spec := "fnBytesSlice", apart := false, narrowed := true }
def FnBytesSliceUptoSaid : Prop := fnBytesSliceUptoRow.holds Try.pinned (OpenSpec.upto fnBytesSliceSpec)

end Rows
end Go.Proofs.Ytgajgjjcnahebaa
