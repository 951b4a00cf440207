/- The kit's contracts of Go's library at this translation, laid by the kit's own tool: Tryz.bits_Mul64, Tryz.bits_Mul. -/
import Derived.Shelf.Small.Bits
import Derived.Shelf.Strconv.Itoa0
import Derived.Shelf.Bits.Mul64
import Derived.Test.YtndeolcamgnmdaaGreatDoorProg
set_option linter.unusedVariables false
set_option linter.unusedSimpArgs false
set_option linter.unnecessarySimpa false
namespace Go.Proofs
open Go.Shelf
def Tryz.lays264_ren : Go.Shelf.Ren := ⟨fun | 264 => 109 | n => n, fun | 53 => 25 | 46 => 54 | n => n, fun | n => n⟩
theorem Tryz.lays264 : Go.Proofs.Lays.n264 Tryz.prog Tryz.lays264_ren := {
  mixed := by kernel_rfl
  f264 := Tryz.func109.trans (congrArg some (by kernel_rfl))
  t46 := Tryz.underlying54
  a46 := Tryz.isAgg54
  z46 := Tryz.sizeOf54
  v46 := Tryz.zeroValue54
  t53 := Tryz.underlying25
  a53 := Tryz.isAgg25
  z53 := Tryz.sizeOf25
  v53 := Tryz.zeroValue25 }
open Go.RowKit Go.Lib in
theorem Tryz.bits_Mul64 (x y : Nat) (hx : x < 18446744073709551616) (hy : y < 18446744073709551616) (w : World) :
    Calls Tryz.prog 109 #[.int .u64 x, .int .u64 y] w fun e w' => e = .returned (.tuple #[.int .u64 ((x * y / 18446744073709551616 : Nat) : Int), .int .u64 ((x * y % 18446744073709551616 : Nat) : Int)]) ∧ w' = w := Any.bits_Mul64 Tryz.lays264 x y hx hy w
def Tryz.lays212_ren : Go.Shelf.Ren := ⟨fun | 212 => 102 | 263 => 108 | 264 => 109 | n => n, fun | 46 => 54 | 51 => 96 | 146 => 121 | 53 => 25 | 148 => 123 | n => n, fun | n => n⟩
theorem Tryz.lays212 : Go.Proofs.Lays.n212 Tryz.prog Tryz.lays212_ren := {
  mixed := by kernel_rfl
  f212 := Tryz.func102.trans (congrArg some (by kernel_rfl))
  f263 := Tryz.func108.trans (congrArg some (by kernel_rfl))
  f264 := Tryz.func109.trans (congrArg some (by kernel_rfl))
  t46 := Tryz.underlying54
  a46 := Tryz.isAgg54
  z46 := Tryz.sizeOf54
  v46 := Tryz.zeroValue54
  t51 := Tryz.underlying96
  a51 := Tryz.isAgg96
  z51 := Tryz.sizeOf96
  v51 := Tryz.zeroValue96
  t53 := Tryz.underlying25
  a53 := Tryz.isAgg25
  z53 := Tryz.sizeOf25
  v53 := Tryz.zeroValue25
  t146 := Tryz.underlying121
  a146 := Tryz.isAgg121
  z146 := Tryz.sizeOf121
  v146 := Tryz.zeroValue121
  t148 := Tryz.underlying123
  a148 := Tryz.isAgg123
  z148 := Tryz.sizeOf123
  v148 := Tryz.zeroValue123 }
open Go.RowKit Go.Lib in
theorem Tryz.bits_Mul (x y : Nat) (hx : x < 18446744073709551616) (hy : y < 18446744073709551616) (w : World) :
    Calls Tryz.prog 102 #[.int .u64 x, .int .u64 y] w fun e w' => e = .returned (.tuple #[.int .u64 ((x * y / 18446744073709551616 : Nat) : Int), .int .u64 ((x * y % 18446744073709551616 : Nat) : Int)]) ∧ w' = w := Any.bits_Mul Tryz.lays212 x y hx hy w
end Go.Proofs
