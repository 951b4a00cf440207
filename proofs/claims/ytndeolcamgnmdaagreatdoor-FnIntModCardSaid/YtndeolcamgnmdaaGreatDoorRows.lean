/-
  NARROWER THAN 'FOR EVERY INPUT', by the rows' own cells (each row's printed sentence says how): FnIntMod: laid.
  DERIVED. THE GIVEN ROWS OF THIS SEAT. 1 by the template 'for every input the law returns true; each argument reads behind the call as it read before'; 0 by the template 'total and deterministic' (their statements: YtndeolcamgnmdaaGreatDoorTotals.lean).
  GIVEN WITH THE SEED: the statements are not yours to turn. If you find one false, say at which input.
  Laid BY PROGRAM, IN A SANDBOX (cutbox-rows.mjs): the forced cells as the released guide's own fill.sh prints them over the translation e1dae28cd6952536… (all of the seat's roots in one cut). By AI agents, Wed Nov 11 2026. No macro, syntax, notation, axiom, sorry.
-/
import Derived.Test.YtndeolcamgnmdaaGreatDoorChecked
import GoSem.Claim
import GoSem.ClaimJoined
import GoSem.ClaimMapViews
import Derived.JoinedTies
import Derived.KernelRfl
namespace Go.Proofs.YtndeolcamgnmdaaGreatDoor
/- THE CELL 'sum', in the pinned program and in every row, IS THE sha256 OF THE DUMP (.gsa) THAT YtndeolcamgnmdaaGreatDoorProg.lean LOADS. Nothing in Lean hashes anything: it is a label: what it is worth is what the hold of that sum in a sandbox is worth. -/
noncomputable def Tryz.pinned : Pinned := { name := "ytndeolcamgnmdaagreatdoor", sum := "e1dae28cd69525362c9289fb63c1ec20c1e0457d523d859f5c2f9fed2b44d89e", checked := Tryz.checked }
namespace Rows
def none {H : Type} : Left H := { results := [], args := [] }

/- WHAT THE LISTED PACKAGE-LEVEL VARIABLES READ AS WHEN THE CALL BEGINS. Each datum BY PROGRAM (the guide's laid-datum.mjs) off the statement by which the dump's own 'gosem.cut.vars' lays the variable. In a bare row this is a premise. The card (YtndeolcamgnmdaaGreatDoorCards.lean) ties it to the program's text. -/
def laid_given_example_pub_larkspur_pub_bigall_divRecursiveThreshold {H : Type} : DataW H := .lit (.int .i64 40)
def laid_given_example_pub_larkspur_pub_bigall_karatsubaThreshold {H : Type} : DataW H := .lit (.int .i64 40)
def laid_given_example_pub_larkspur_pub_bigall_basicSqrThreshold {H : Type} : DataW H := .lit (.int .i64 12)
def laid_given_example_pub_larkspur_pub_bigall_karatsubaSqrThreshold {H : Type} : DataW H := .lit (.int .i64 80)

/-- 'laws.FnIntMod': WHATEVER THE INPUT: true; the input reads as it did. -/
def fnIntModSpec : ChangeSpec := { name := "fnIntMod", vars := ["given.example/pub-larkspur/pub/bigall.divRecursiveThreshold", "given.example/pub-larkspur/pub/bigall.karatsubaThreshold", "given.example/pub-larkspur/pub/bigall.basicSqrThreshold", "given.example/pub-larkspur/pub/bigall.karatsubaSqrThreshold"], fn := fun _ => fun
  | [d1, d2, d3, d4, g1, g2, g3, g4] => { results := [.lit (.bool true)], args := [d1, d2, d3, d4], vars := [g1, g2, g3, g4] }
  | _ => none }
def fnIntModRow : OpenClaim := { program := "ytndeolcamgnmdaagreatdoor", sum := "e1dae28cd69525362c9289fb63c1ec20c1e0457d523d859f5c2f9fed2b44d89e", func := "given.example/pub-larkspur/laws.FnIntMod", spec := "fnIntMod", inPlace := ["math/bits.Add64", "math/bits.Sub64"], recurses := true, named := ["given.example/pub-larkspur/pub/bigall.divRecursiveThreshold", "given.example/pub-larkspur/pub/bigall.karatsubaThreshold", "given.example/pub-larkspur/pub/bigall.basicSqrThreshold", "given.example/pub-larkspur/pub/bigall.karatsubaSqrThreshold"], apart := false, laid := [("given.example/pub-larkspur/pub/bigall.divRecursiveThreshold", laid_given_example_pub_larkspur_pub_bigall_divRecursiveThreshold), ("given.example/pub-larkspur/pub/bigall.karatsubaThreshold", laid_given_example_pub_larkspur_pub_bigall_karatsubaThreshold), ("given.example/pub-larkspur/pub/bigall.basicSqrThreshold", laid_given_example_pub_larkspur_pub_bigall_basicSqrThreshold), ("given.example/pub-larkspur/pub/bigall.karatsubaSqrThreshold", laid_given_example_pub_larkspur_pub_bigall_karatsubaSqrThreshold)] }
def FnIntModSaid : Prop := fnIntModRow.holds Tryz.pinned (OpenSpec.ofChange fnIntModSpec)

/-- ITS FALSE NEIGHBOUR: 'it returns false'. Refute it at one input. -/
def fnIntModWrong : ChangeSpec := { name := "fnIntMod", vars := ["given.example/pub-larkspur/pub/bigall.divRecursiveThreshold", "given.example/pub-larkspur/pub/bigall.karatsubaThreshold", "given.example/pub-larkspur/pub/bigall.basicSqrThreshold", "given.example/pub-larkspur/pub/bigall.karatsubaSqrThreshold"], fn := fun _ => fun
  | [d1, d2, d3, d4, g1, g2, g3, g4] => { results := [.lit (.bool false)], args := [d1, d2, d3, d4], vars := [g1, g2, g3, g4] }
  | _ => none }
def FnIntModWrongFalsely : Prop := fnIntModRow.holds Tryz.pinned (OpenSpec.ofChange fnIntModWrong)

/- THE SECOND FORM. 'bulk': how many values and letters a reading holds, each counted each time it is reached (what is shared counts as often as it is met; a slice's spare places count too). A statement '..UptoSaid' is the law's where the arguments, and the package variables that the reading takes, are together of bulk at most 1048576: NARROWER than '..Said'. Prove '..Said' where nothing that the law and all that it calls make is longer than what came in: it says more and counts as full. Else prove '..UptoSaid'. A law counts once. -/
mutual
def uptoBulk {H : Type} : DataW H → Nat
  | .lit (.string bytes) => bytes.length + 1
  | .lit _ => 1
  | .nil => 1
  | .ptr d => uptoBulk d + 1
  | .slice elems spare => uptoBulkAll elems + uptoBulkAll spare + 1
  | .agg parts => uptoBulkAll parts + 1
  | .iface _ d => uptoBulk d + 1
  | .map entries => uptoBulkEntries entries + 1
  | .held _ => 1
def uptoBulkAll {H : Type} : List (DataW H) → Nat
  | [] => 0
  | d :: r => uptoBulk d + uptoBulkAll r
def uptoBulkEntries {H : Type} : List (Lit × DataW H) → Nat
  | [] => 0
  | x :: r => uptoBulkEntry x + uptoBulkEntries r
def uptoBulkEntry {H : Type} : Lit × DataW H → Nat
  | (.string bytes, d) => bytes.length + uptoBulk d + 1
  | (_, d) => uptoBulk d + 1
 end
def uptoSmall : (H : Type) → List (DataW H) → Bool := fun _ ds => decide (uptoBulkAll ds ≤ 1048576)
def OpenSpec.upto (s : _root_.Go.ChangeSpec) : _root_.Go.OpenSpec := { _root_.Go.OpenSpec.ofChange s with cond := some uptoSmall }

/-- 'laws.FnIntMod', WHERE WHAT IT READS IS OF BULK AT MOST 1048576: true; the input reads as it did. -/
def fnIntModUptoRow : OpenClaim := { program := "ytndeolcamgnmdaagreatdoor", sum := "e1dae28cd69525362c9289fb63c1ec20c1e0457d523d859f5c2f9fed2b44d89e", func := "given.example/pub-larkspur/laws.FnIntMod", spec := "fnIntMod", inPlace := ["math/bits.Add64", "math/bits.Sub64"], recurses := true, named := ["given.example/pub-larkspur/pub/bigall.divRecursiveThreshold", "given.example/pub-larkspur/pub/bigall.karatsubaThreshold", "given.example/pub-larkspur/pub/bigall.basicSqrThreshold", "given.example/pub-larkspur/pub/bigall.karatsubaSqrThreshold"], apart := false, laid := [("given.example/pub-larkspur/pub/bigall.divRecursiveThreshold", laid_given_example_pub_larkspur_pub_bigall_divRecursiveThreshold), ("given.example/pub-larkspur/pub/bigall.karatsubaThreshold", laid_given_example_pub_larkspur_pub_bigall_karatsubaThreshold), ("given.example/pub-larkspur/pub/bigall.basicSqrThreshold", laid_given_example_pub_larkspur_pub_bigall_basicSqrThreshold), ("given.example/pub-larkspur/pub/bigall.karatsubaSqrThreshold", laid_given_example_pub_larkspur_pub_bigall_karatsubaSqrThreshold)], narrowed := true }
def FnIntModUptoSaid : Prop := fnIntModUptoRow.holds Tryz.pinned (OpenSpec.upto fnIntModSpec)

end Rows
end Go.Proofs.YtndeolcamgnmdaaGreatDoor
