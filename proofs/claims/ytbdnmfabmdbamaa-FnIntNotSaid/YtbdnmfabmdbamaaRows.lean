/-
  No cell of these rows narrows 'for every input' (looked for: loops, veiled, ifaces, maps, wideKeys, modest, calm, conditions, laid).
  DERIVED. THE GIVEN ROWS OF THIS SEAT. 5 by the template 'for every input the law returns true; each argument reads behind the call as it read before'; 0 by the template 'total and deterministic' (their statements: YtbdnmfabmdbamaaTotals.lean).
  GIVEN WITH THE SEED: the statements are not yours to turn. If you find one false, say at which input.
  Laid BY PROGRAM, IN A SANDBOX (cutbox-rows.mjs): the forced cells as the released guide's own fill.sh prints them over the translation d09b7887e19faa06… (all of the seat's roots in one cut). By AI agents, Wed Nov 11 2026. No macro, syntax, notation, axiom, sorry.
-/
import Derived.Test.YtbdnmfabmdbamaaChecked
import GoSem.Claim
import GoSem.ClaimJoined
import GoSem.ClaimMapViews
import Derived.JoinedTies
import Derived.KernelRfl
namespace Go.Proofs.Ytbdnmfabmdbamaa
/- THE CELL 'sum', in the pinned program and in every row, IS THE sha256 OF THE DUMP (.gsa) THAT YtbdnmfabmdbamaaProg.lean LOADS. Nothing in Lean hashes anything: it is a label: what it is worth is what the hold of that sum in a sandbox is worth. -/
noncomputable def Try.pinned : Pinned := { name := "ytbdnmfabmdbamaa", sum := "d09b7887e19faa060ad15c70da5d589bc6127e0d5aaea291c568151888f590f3", checked := Try.checked }
namespace Rows
def none {H : Type} : Left H := { results := [], args := [] }

/-- 'laws.FnIntSign': WHATEVER THE INPUT: true; the input reads as it did. -/
def fnIntSignSpec : ChangeSpec := { name := "fnIntSign", fn := fun _ => fun
  | [d1, d2] => { results := [.lit (.bool true)], args := [d1, d2] }
  | _ => none }
def fnIntSignRow : OpenClaim := { program := "ytbdnmfabmdbamaa", sum := "d09b7887e19faa060ad15c70da5d589bc6127e0d5aaea291c568151888f590f3", func := "given.example/pub-larkspur/laws.FnIntSign", spec := "fnIntSign", apart := false }
def FnIntSignSaid : Prop := fnIntSignRow.holds Try.pinned (OpenSpec.ofChange fnIntSignSpec)

/-- ITS FALSE NEIGHBOUR: 'it returns false'. Refute it at one input. -/
def fnIntSignWrong : ChangeSpec := { name := "fnIntSign", fn := fun _ => fun
  | [d1, d2] => { results := [.lit (.bool false)], args := [d1, d2] }
  | _ => none }
def FnIntSignWrongFalsely : Prop := fnIntSignRow.holds Try.pinned (OpenSpec.ofChange fnIntSignWrong)

/-- 'laws.FnIntEqual': WHATEVER THE INPUT: true; the input reads as it did. -/
def fnIntEqualSpec : ChangeSpec := { name := "fnIntEqual", fn := fun _ => fun
  | [d1, d2, d3, d4] => { results := [.lit (.bool true)], args := [d1, d2, d3, d4] }
  | _ => none }
def fnIntEqualRow : OpenClaim := { program := "ytbdnmfabmdbamaa", sum := "d09b7887e19faa060ad15c70da5d589bc6127e0d5aaea291c568151888f590f3", func := "given.example/pub-larkspur/laws.FnIntEqual", spec := "fnIntEqual", apart := false }
def FnIntEqualSaid : Prop := fnIntEqualRow.holds Try.pinned (OpenSpec.ofChange fnIntEqualSpec)

/-- ITS FALSE NEIGHBOUR: 'it returns false'. Refute it at one input. -/
def fnIntEqualWrong : ChangeSpec := { name := "fnIntEqual", fn := fun _ => fun
  | [d1, d2, d3, d4] => { results := [.lit (.bool false)], args := [d1, d2, d3, d4] }
  | _ => none }
def FnIntEqualWrongFalsely : Prop := fnIntEqualRow.holds Try.pinned (OpenSpec.ofChange fnIntEqualWrong)

/-- 'laws.FnIntUint64': WHATEVER THE INPUT: true; the input reads as it did. -/
def fnIntUint64Spec : ChangeSpec := { name := "fnIntUint64", fn := fun _ => fun
  | [d1, d2] => { results := [.lit (.bool true)], args := [d1, d2] }
  | _ => none }
def fnIntUint64Row : OpenClaim := { program := "ytbdnmfabmdbamaa", sum := "d09b7887e19faa060ad15c70da5d589bc6127e0d5aaea291c568151888f590f3", func := "given.example/pub-larkspur/laws.FnIntUint64", spec := "fnIntUint64", apart := false }
def FnIntUint64Said : Prop := fnIntUint64Row.holds Try.pinned (OpenSpec.ofChange fnIntUint64Spec)

/-- ITS FALSE NEIGHBOUR: 'it returns false'. Refute it at one input. -/
def fnIntUint64Wrong : ChangeSpec := { name := "fnIntUint64", fn := fun _ => fun
  | [d1, d2] => { results := [.lit (.bool false)], args := [d1, d2] }
  | _ => none }
def FnIntUint64WrongFalsely : Prop := fnIntUint64Row.holds Try.pinned (OpenSpec.ofChange fnIntUint64Wrong)

/-- 'laws.FnIntNot': WHATEVER THE INPUT: true; the input reads as it did. -/
def fnIntNotSpec : ChangeSpec := { name := "fnIntNot", fn := fun _ => fun
  | [d1, d2] => { results := [.lit (.bool true)], args := [d1, d2] }
  | _ => none }
def fnIntNotRow : OpenClaim := { program := "ytbdnmfabmdbamaa", sum := "d09b7887e19faa060ad15c70da5d589bc6127e0d5aaea291c568151888f590f3", func := "given.example/pub-larkspur/laws.FnIntNot", spec := "fnIntNot", inPlace := ["math/bits.Sub64", "math/bits.Add64"], recurses := true, apart := false }
def FnIntNotSaid : Prop := fnIntNotRow.holds Try.pinned (OpenSpec.ofChange fnIntNotSpec)

/-- ITS FALSE NEIGHBOUR: 'it returns false'. Refute it at one input. -/
def fnIntNotWrong : ChangeSpec := { name := "fnIntNot", fn := fun _ => fun
  | [d1, d2] => { results := [.lit (.bool false)], args := [d1, d2] }
  | _ => none }
def FnIntNotWrongFalsely : Prop := fnIntNotRow.holds Try.pinned (OpenSpec.ofChange fnIntNotWrong)

/-- 'laws.FnIntFinite': WHATEVER THE INPUT: true; the input reads as it did. -/
def fnIntFiniteSpec : ChangeSpec := { name := "fnIntFinite", fn := fun _ => fun
  | [d1, d2] => { results := [.lit (.bool true)], args := [d1, d2] }
  | _ => none }
def fnIntFiniteRow : OpenClaim := { program := "ytbdnmfabmdbamaa", sum := "d09b7887e19faa060ad15c70da5d589bc6127e0d5aaea291c568151888f590f3", func := "given.example/pub-larkspur/laws.FnIntFinite", spec := "fnIntFinite", inPlace := ["math.Float64frombits", "math/bits.Add64", "math.Float64bits"], apart := false }
def FnIntFiniteSaid : Prop := fnIntFiniteRow.holds Try.pinned (OpenSpec.ofChange fnIntFiniteSpec)

/-- ITS FALSE NEIGHBOUR: 'it returns false'. Refute it at one input. -/
def fnIntFiniteWrong : ChangeSpec := { name := "fnIntFinite", fn := fun _ => fun
  | [d1, d2] => { results := [.lit (.bool false)], args := [d1, d2] }
  | _ => none }
def FnIntFiniteWrongFalsely : Prop := fnIntFiniteRow.holds Try.pinned (OpenSpec.ofChange fnIntFiniteWrong)

/- THE SECOND FORM. 'bulk': how many values and letters a reading holds, each counted each time it is reached (what is shared counts as often as it is met; a slice's spare places count too). A statement '..UptoSaid' is the law's where the arguments, and the package variables that the reading takes, are together of bulk at most 1048576: NARROWER than '..Said'. Prove '..Said' where nothing that the law and all that it calls make is longer than what came in: it says more and counts as full. Else prove '..UptoSaid'. A law counts once. -/
mutual
def uptoBulk {H : Type} : DataW H → Nat
  | .lit (.string bytes) => bytes.length + 1
  | .lit _ => 1
  | .nil => 1
  | .ptr d => uptoBulk d + 1
  | .slice elems spare => uptoBulkAll elems + uptoBulkAll spare + 1
  | .agg parts => uptoBulkAll parts + 1
  | .iface _ d => uptoBulk d + 1
  | .map entries => uptoBulkEntries entries + 1
  | .held _ => 1
def uptoBulkAll {H : Type} : List (DataW H) → Nat
  | [] => 0
  | d :: r => uptoBulk d + uptoBulkAll r
def uptoBulkEntries {H : Type} : List (Lit × DataW H) → Nat
  | [] => 0
  | x :: r => uptoBulkEntry x + uptoBulkEntries r
def uptoBulkEntry {H : Type} : Lit × DataW H → Nat
  | (.string bytes, d) => bytes.length + uptoBulk d + 1
  | (_, d) => uptoBulk d + 1
 end
def uptoSmall : (H : Type) → List (DataW H) → Bool := fun _ ds => decide (uptoBulkAll ds ≤ 1048576)
def OpenSpec.upto (s : _root_.Go.ChangeSpec) : _root_.Go.OpenSpec := { _root_.Go.OpenSpec.ofChange s with cond := some uptoSmall }

/-- 'laws.FnIntSign', WHERE WHAT IT READS IS OF BULK AT MOST 1048576: true; the input reads as it did. -/
def fnIntSignUptoRow : OpenClaim := { program := "ytbdnmfabmdbamaa", sum := "d09b7887e19faa060ad15c70da5d589bc6127e0d5aaea291c568151888f590f3", func := "given.example/pub-larkspur/laws.FnIntSign", spec := "fnIntSign", apart := false, narrowed := true }
def FnIntSignUptoSaid : Prop := fnIntSignUptoRow.holds Try.pinned (OpenSpec.upto fnIntSignSpec)

/-- 'laws.FnIntEqual', WHERE WHAT IT READS IS OF BULK AT MOST 1048576: true; the input reads as it did. -/
def fnIntEqualUptoRow : OpenClaim := { program := "ytbdnmfabmdbamaa", sum := "d09b7887e19faa060ad15c70da5d589bc6127e0d5aaea291c568151888f590f3", func := "given.example/pub-larkspur/laws.FnIntEqual", spec := "fnIntEqual", apart := false, narrowed := true }
def FnIntEqualUptoSaid : Prop := fnIntEqualUptoRow.holds Try.pinned (OpenSpec.upto fnIntEqualSpec)

/-- 'laws.FnIntUint64', WHERE WHAT IT READS IS OF BULK AT MOST 1048576: true; the input reads as it did. -/
def fnIntUint64UptoRow : OpenClaim := { program := "ytbdnmfabmdbamaa", sum := "d09b7887e19faa060ad15c70da5d589bc6127e0d5aaea291c568151888f590f3", func := "given.example/pub-larkspur/laws.FnIntUint64", spec := "fnIntUint64", apart := false, narrowed := true }
def FnIntUint64UptoSaid : Prop := fnIntUint64UptoRow.holds Try.pinned (OpenSpec.upto fnIntUint64Spec)

/-- 'laws.FnIntNot', WHERE WHAT IT READS IS OF BULK AT MOST 1048576: true; the input reads as it did. -/
def fnIntNotUptoRow : OpenClaim := { program := "ytbdnmfabmdbamaa", sum := "d09b7887e19faa060ad15c70da5d589bc6127e0d5aaea291c568151888f590f3", func := "given.example/pub-larkspur/laws.FnIntNot", spec := "fnIntNot", inPlace := ["math/bits.Sub64", "math/bits.Add64"], recurses := true, apart := false, narrowed := true }
def FnIntNotUptoSaid : Prop := fnIntNotUptoRow.holds Try.pinned (OpenSpec.upto fnIntNotSpec)

/-- 'laws.FnIntFinite', WHERE WHAT IT READS IS OF BULK AT MOST 1048576: true; the input reads as it did. -/
def fnIntFiniteUptoRow : OpenClaim := { program := "ytbdnmfabmdbamaa", sum := "d09b7887e19faa060ad15c70da5d589bc6127e0d5aaea291c568151888f590f3", func := "given.example/pub-larkspur/laws.FnIntFinite", spec := "fnIntFinite", inPlace := ["math.Float64frombits", "math/bits.Add64", "math.Float64bits"], apart := false, narrowed := true }
def FnIntFiniteUptoSaid : Prop := fnIntFiniteUptoRow.holds Try.pinned (OpenSpec.upto fnIntFiniteSpec)

end Rows
end Go.Proofs.Ytbdnmfabmdbamaa
