/- More small laws over any program: blocks behind draws. No program in sight. -/
import Derived.Test.YtghendoiohfolaaGreatDoorOwn
namespace Go.Proofs.YtghendoiohfolaaGreatDoor
set_option linter.unusedSimpArgs false
set_option linter.unusedVariables false
set_option linter.unnecessarySimpa false
open Go.RowKit
theorem Blk.drewN {w : World} {g : Nat} {t : TypeId} {cs : Array Value} (h : Blk w g t cs) (n : Nat) : Blk (w.drewN n) g t cs := h
end Go.Proofs.YtghendoiohfolaaGreatDoor
