/- The kit's contracts of Go's library at this translation, laid by the kit's own tool: Try.bits_Len32, Try.bits_Len, Try.bits_LeadingZeros, Try.bits_Len64. -/
import Derived.Shelf.Small.Bits
import Derived.Shelf.Strconv.Itoa0
import Derived.Test.YtndeolcamgnmdaaProg
namespace Go.Proofs
open Go.Shelf
def Try.lays128_ren : Go.Shelf.Ren := ⟨fun | 128 => 79 | n => n, fun | 51 => 95 | 3 => 3 | 4 => 4 | 46 => 67 | 5 => 5 | 9 => 9 | n => n, fun | n => n⟩
theorem Try.lays128 : Go.Proofs.Lays.n128 Try.prog Try.lays128_ren := {
  mixed := by kernel_rfl
  f128 := Try.func79.trans (congrArg some (by kernel_rfl))
  t3 := Try.underlying3
  a3 := Try.isAgg3
  z3 := Try.sizeOf3
  v3 := Try.zeroValue3
  t4 := Try.underlying4
  a4 := Try.isAgg4
  z4 := Try.sizeOf4
  v4 := Try.zeroValue4
  t5 := Try.underlying5
  a5 := Try.isAgg5
  z5 := Try.sizeOf5
  v5 := Try.zeroValue5
  t9 := Try.underlying9
  a9 := Try.isAgg9
  z9 := Try.sizeOf9
  v9 := Try.zeroValue9
  t46 := Try.underlying67
  a46 := Try.isAgg67
  z46 := Try.sizeOf67
  v46 := Try.zeroValue67
  t51 := Try.underlying95
  a51 := Try.isAgg95
  z51 := Try.sizeOf95
  v51 := Try.zeroValue95 }
theorem Try.bits_Len32 (x : Int) (w : World) (h0 : 0 ≤ x) (h1 : x ≤ 4294967295) :
    Calls Try.prog 79 #[.int .u32 x] w fun e w' => e = .returned (.int .i64 (Lib.bitLen x.toNat)) ∧ w' = w := Any.bits_Len32 Try.lays128 x w h0 h1
def Try.lays125_ren : Go.Shelf.Ren := ⟨fun | 125 => 74 | 128 => 79 | 129 => 80 | n => n, fun | 46 => 67 | 3 => 3 | 51 => 95 | 53 => 25 | 4 => 4 | 5 => 5 | 9 => 9 | n => n, fun | n => n⟩
theorem Try.lays125 : Go.Proofs.Lays.n125 Try.prog Try.lays125_ren := {
  mixed := by kernel_rfl
  f125 := Try.func74.trans (congrArg some (by kernel_rfl))
  f128 := Try.func79.trans (congrArg some (by kernel_rfl))
  f129 := Try.func80.trans (congrArg some (by kernel_rfl))
  t3 := Try.underlying3
  a3 := Try.isAgg3
  z3 := Try.sizeOf3
  v3 := Try.zeroValue3
  t4 := Try.underlying4
  a4 := Try.isAgg4
  z4 := Try.sizeOf4
  v4 := Try.zeroValue4
  t5 := Try.underlying5
  a5 := Try.isAgg5
  z5 := Try.sizeOf5
  v5 := Try.zeroValue5
  t9 := Try.underlying9
  a9 := Try.isAgg9
  z9 := Try.sizeOf9
  v9 := Try.zeroValue9
  t46 := Try.underlying67
  a46 := Try.isAgg67
  z46 := Try.sizeOf67
  v46 := Try.zeroValue67
  t51 := Try.underlying95
  a51 := Try.isAgg95
  z51 := Try.sizeOf95
  v51 := Try.zeroValue95
  t53 := Try.underlying25
  a53 := Try.isAgg25
  z53 := Try.sizeOf25
  v53 := Try.zeroValue25 }
theorem Try.bits_Len (x : Int) (w : World) (h0 : 0 ≤ x) (h1 : x ≤ 18446744073709551615) :
    Calls Try.prog 74 #[.int .u64 x] w fun e w' => e = .returned (.int .i64 (Lib.bitLen x.toNat)) ∧ w' = w := Any.bits_Len Try.lays125 x w h0 h1
def Try.lays130_ren : Go.Shelf.Ren := ⟨fun | 130 => 81 | 125 => 74 | 128 => 79 | 129 => 80 | n => n, fun | 46 => 67 | 3 => 3 | 51 => 95 | 53 => 25 | 4 => 4 | 5 => 5 | 9 => 9 | n => n, fun | n => n⟩
theorem Try.lays130 : Go.Proofs.Lays.n130 Try.prog Try.lays130_ren := {
  mixed := by kernel_rfl
  f125 := Try.func74.trans (congrArg some (by kernel_rfl))
  f128 := Try.func79.trans (congrArg some (by kernel_rfl))
  f129 := Try.func80.trans (congrArg some (by kernel_rfl))
  f130 := Try.func81.trans (congrArg some (by kernel_rfl))
  t3 := Try.underlying3
  a3 := Try.isAgg3
  z3 := Try.sizeOf3
  v3 := Try.zeroValue3
  t4 := Try.underlying4
  a4 := Try.isAgg4
  z4 := Try.sizeOf4
  v4 := Try.zeroValue4
  t5 := Try.underlying5
  a5 := Try.isAgg5
  z5 := Try.sizeOf5
  v5 := Try.zeroValue5
  t9 := Try.underlying9
  a9 := Try.isAgg9
  z9 := Try.sizeOf9
  v9 := Try.zeroValue9
  t46 := Try.underlying67
  a46 := Try.isAgg67
  z46 := Try.sizeOf67
  v46 := Try.zeroValue67
  t51 := Try.underlying95
  a51 := Try.isAgg95
  z51 := Try.sizeOf95
  v51 := Try.zeroValue95
  t53 := Try.underlying25
  a53 := Try.isAgg25
  z53 := Try.sizeOf25
  v53 := Try.zeroValue25 }
theorem Try.bits_LeadingZeros (x : Int) (w : World) (h0 : 0 ≤ x) (h1 : x ≤ 18446744073709551615) :
    Calls Try.prog 81 #[.int .u64 x] w fun e w' => e = .returned (.int .i64 (64 - (Lib.bitLen x.toNat : Int))) ∧ w' = w := Any.bits_LeadingZeros Try.lays130 x w h0 h1
def Try.lays129_ren : Go.Shelf.Ren := ⟨fun | 129 => 80 | n => n, fun | 53 => 25 | 3 => 3 | 4 => 4 | 46 => 67 | 5 => 5 | 9 => 9 | n => n, fun | n => n⟩
theorem Try.lays129 : Go.Proofs.Lays.n129 Try.prog Try.lays129_ren := {
  mixed := by kernel_rfl
  f129 := Try.func80.trans (congrArg some (by kernel_rfl))
  t3 := Try.underlying3
  a3 := Try.isAgg3
  z3 := Try.sizeOf3
  v3 := Try.zeroValue3
  t4 := Try.underlying4
  a4 := Try.isAgg4
  z4 := Try.sizeOf4
  v4 := Try.zeroValue4
  t5 := Try.underlying5
  a5 := Try.isAgg5
  z5 := Try.sizeOf5
  v5 := Try.zeroValue5
  t9 := Try.underlying9
  a9 := Try.isAgg9
  z9 := Try.sizeOf9
  v9 := Try.zeroValue9
  t46 := Try.underlying67
  a46 := Try.isAgg67
  z46 := Try.sizeOf67
  v46 := Try.zeroValue67
  t53 := Try.underlying25
  a53 := Try.isAgg25
  z53 := Try.sizeOf25
  v53 := Try.zeroValue25 }
theorem Try.bits_Len64 (x : Int) (w : World) (h0 : 0 ≤ x) (h1 : x ≤ 18446744073709551615) :
    Calls Try.prog 80 #[.int .u64 x] w fun e w' => e = .returned (.int .i64 (Lib.bitLen x.toNat)) ∧ w' = w := Any.bits_Len64 Try.lays129 x w h0 h1
end Go.Proofs
