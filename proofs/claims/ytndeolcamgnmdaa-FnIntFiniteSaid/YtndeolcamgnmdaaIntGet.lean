/- The two parts of an int. -/
import Derived.Test.YtndeolcamgnmdaaImplWhole
namespace Go.Proofs.Ytndeolcamgnmdaa
open Go.RowKit
theorem int_get (x : Int) (p : Option Addr) (w : World) :
    Calls Try.prog 53 #[.agg #[.int .i64 x, .pointer p]] w fun e w' => e = .returned (.tuple #[.int .i64 x, .pointer p]) ∧ Below w.heap.size w w' := by
  go_enter Try.func53, Try.ntmps53
  go_wp2_with fail
  go_quiet (fail)
  go_wp2
  go_ret2
  exact ⟨rfl, below_dn ((Below.refl _ w).alloc (Nat.le_refl _) _) _⟩
end Go.Proofs.Ytndeolcamgnmdaa
