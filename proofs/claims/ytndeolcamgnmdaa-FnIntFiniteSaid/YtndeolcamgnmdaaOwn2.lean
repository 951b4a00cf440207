/- More small laws over any program: blocks behind draws. No program in sight. -/
import Derived.Test.YtndeolcamgnmdaaOwn
namespace Go.Proofs.Ytndeolcamgnmdaa
open Go.RowKit
theorem Blk.drewN {w : World} {g : Nat} {t : TypeId} {cs : Array Value} (h : Blk w g t cs) (n : Nat) : Blk (w.drewN n) g t cs := h
end Go.Proofs.Ytndeolcamgnmdaa
