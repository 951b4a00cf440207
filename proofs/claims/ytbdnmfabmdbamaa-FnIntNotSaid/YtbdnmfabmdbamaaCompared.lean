/- What a comparison without an error gives. -/
import Derived.Test.YtbdnmfabmdbamaaBigCmp
namespace Go.Proofs.Ytbdnmfabmdbamaa
open Go.RowKit
theorem compared_nil (b : Bool) (w : World) :
    Calls Try.prog 31 #[.bool b, .nilIface] w fun e w' => e = .returned (.tuple #[.bool b, .bool true]) ∧ Below w.heap.size w w' := by
  cases b
  all_goals
    go_enter Try.func31, Try.ntmps31
    go_wp2_with fail
    go_quiet (fail)
    go_wp2
    go_ret2
    exact ⟨rfl, below_dn (Below.refl _ _) _⟩
end Go.Proofs.Ytbdnmfabmdbamaa
