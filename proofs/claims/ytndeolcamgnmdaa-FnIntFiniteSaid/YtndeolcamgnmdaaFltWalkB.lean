/- Frexp and Ldexp on floats above 0. -/
import Derived.Test.YtndeolcamgnmdaaFltWalkA
namespace Go.Proofs.Ytndeolcamgnmdaa
open Go.RowKit
theorem ofInt_i64 (a : Nat) (ha : a < 9223372036854775808) : (BitVec.ofInt 64 (a : Int)).toNat = a := by
  rw [BitVec.ofInt_natCast, BitVec.toNat_ofNat]; exact Nat.mod_eq_of_lt (by omega)
theorem i64_and_nat (a b : Nat) (ha : a < 9223372036854775808) (hb : b < 9223372036854775808) : bits .and .i64 (a : Int) (b : Int) = ((a &&& b : Nat) : Int) := by
  have hx : a &&& b < 2 ^ 63 := Nat.and_lt_two_pow _ (by omega)
  show IntKind.i64.wrap ((BitVec.ofInt 64 (a : Int) &&& BitVec.ofInt 64 (b : Int)).toNat : Int) = _
  rw [BitVec.toNat_and, ofInt_i64 a ha, ofInt_i64 b hb, IntKind.wrap_i64]
  omega
theorem ord_lt {r s : Nat} (hr : r < infR) (hs : s < infR) : (FloatKind.f64.format.order r s == some .lt) = decide (r < s) := by
  show (Ieee.double.order (FW false r) (FW false s) == _) = _
  rw [order_fw false false hr hs, cmp_lt]
  unfold sval
  simp only [Bool.false_eq_true, if_false, Int.ofNat_lt, fval_lt]
theorem ord_gt {r s : Nat} (hr : r < infR) (hs : s < infR) : (FloatKind.f64.format.order r s == some .gt) = decide (s < r) := by
  show (Ieee.double.order (FW false r) (FW false s) == _) = _
  rw [order_fw false false hr hs, cmp_gt]
  unfold sval
  simp only [Bool.false_eq_true, if_false, Int.ofNat_lt, fval_lt]
theorem ord_eq0 {r : Nat} (hr : r < infR) (h0 : 0 < r) : (FloatKind.f64.format.order r 0 == some .eq) = false := by
  show (Ieee.double.order (FW false r) (FW false 0) == _) = _
  rw [order_fw false false hr (by decide), cmp_eq]
  unfold sval
  have := fval_pos h0
  have := fval_zero
  simp only [Bool.false_eq_true, if_false]
  simp
  omega
theorem ord_self {r : Nat} (hr : r < infR) : (FloatKind.f64.format.order r r != some .eq) = false := by
  show (Ieee.double.order (FW false r) (FW false r) != _) = _
  rw [order_fw false false hr hr, bne, cmp_eq]
  simp
theorem ord_inf0 : (FloatKind.f64.format.order infR 0 == some .eq) = false := by decide
theorem ord_infmax : (FloatKind.f64.format.order infR 9218868437227405311 == some .gt) = true := by decide
end Go.Proofs.Ytndeolcamgnmdaa
