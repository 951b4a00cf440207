/- A row of differences as the program joins it: bit by bit. -/
import Derived.Test.YtkddmiamdpbgiaaAddU
import Derived.Test.YtkddmiamdpbgiaaDelta
import Derived.Lib.EndianBits
namespace Go.Proofs.Ytkddmiamdpbgiaa
open Go.RowKit
theorem or16 (n : Nat) (x y : Int) (hy16 : y < 65536) (hy0 : 0 ≤ y) (hy : y < 2 ^ n) (hx0 : 0 ≤ x) (hx : x % 2 ^ n = 0) (hx1 : x < 65536) : bits .or .u16 x y = x + y := by
  have e : bits .or .u16 x y = bits .or .u16 y x := by simp only [bits, BitVec.or_comm]
  rw [e, bits_join_low .u16 16 (by decide) wraps_u16 n y x hy0 hy (by omega) hx0 hx (by omega), Int.add_comm]
theorem row16 (dp : Nat) (dl dc : Int) (m : Nat) (hp : dp ≤ 15) (hm : m ≤ 1) :
    bits .or .u16 (bits .or .u16 (bits .or .u16 ((dp : Int) * 4096) (dl % 32 * 128)) (dc % 64 * 2)) (m : Int) = (dRow dp dl dc m : Int) := by
  rw [or16 12 ((dp : Int) * 4096) (dl % 32 * 128) (by omega) (by omega) (by omega) (by omega) (by omega) (by omega)]
  rw [or16 7 _ (dc % 64 * 2) (by omega) (by omega) (by omega) (by omega) (by omega) (by omega)]
  rw [or16 1 _ (m : Int) (by omega) (by omega) (by omega) (by omega) (by omega) (by omega)]
  unfold dRow
  omega
end Go.Proofs.Ytkddmiamdpbgiaa
