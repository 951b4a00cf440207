/- Words of floats: their order, their sign, their fields. No program in sight. -/
import Derived.Test.YtndeolcamgnmdaaFltPlain
import Derived.Laws.BitsAllLaws
import Derived.Laws.BitsLemmas
namespace Go.Proofs.Ytndeolcamgnmdaa
open Ieee Go.RowKit
/-- The word of a sign and a rung. -/
def FW (neg : Bool) (r : Nat) : Nat := if neg then S63 + r else r
theorem fw_false (r : Nat) : FW false r = r := rfl
theorem fw_true (r : Nat) : FW true r = S63 + r := rfl
theorem word_fw (neg : Bool) (r : Nat) : double.word neg r = FW neg r := by
  unfold Format.word FW; rw [d_sgn]
theorem read_fw (neg : Bool) {r : Nat} (h : r < infR) : double.read (FW neg r) = .number neg (fmag r) (-1074 + (fexp r : Nat)) := by
  cases neg
  · exact read_pos h
  · exact read_neg h
theorem fw_cases (x : Nat) (h : x < 2 * S63) : ∃ neg r, x = FW neg r ∧ r < S63 := by
  rcases Nat.lt_or_ge x S63 with h1 | h1
  · exact ⟨false, x, rfl, h1⟩
  · exact ⟨true, x - S63, by unfold FW; simp; omega, by omega⟩
theorem read_rung (neg : Bool) {r : Nat} (h : r < S63) : (FW neg r / S63 % 2 == 1) = neg ∧ FW neg r % S63 = r := by
  have h0 : 0 < S63 := by decide
  cases neg
  · rw [fw_false, Nat.div_eq_of_lt h, Nat.mod_eq_of_lt h]; simp
  · rw [fw_true, Nat.add_div_left _ h0, Nat.div_eq_of_lt h, Nat.add_mod_left, Nat.mod_eq_of_lt h]; simp
theorem read_inf (neg : Bool) : double.read (FW neg infR) = .infinity neg := by cases neg <;> decide
theorem read_nan (neg : Bool) {r : Nat} (h : infR < r) (h2 : r < S63) : double.read (FW neg r) = .nan neg (r - infR) := by
  obtain ⟨e1, e2⟩ := read_rung neg h2
  have h3 := infR_eq
  have h4 := B52_pos
  unfold Format.read
  simp only [d_sgn, d_bin, d_inf, e1, e2]
  rw [if_neg (by omega), if_neg (by omega), if_neg (by omega)]
def sval (neg : Bool) (r : Nat) : Int := if neg then -(fval r : Int) else (fval r : Int)
theorem signed_mul (neg : Bool) (m k u : Nat) : Ieee.signed neg m (k + u) = Ieee.signed neg m k * ((2 ^ u : Nat) : Int) := by
  unfold Ieee.signed
  rw [Nat.shiftLeft_eq, Nat.shiftLeft_eq, Nat.pow_add, ← Nat.mul_assoc]
  cases neg <;> simp [Int.neg_mul]
theorem sval_signed (neg : Bool) (r : Nat) : sval neg r = Ieee.signed neg (fmag r) (fexp r) := by
  unfold sval Ieee.signed fval
  rw [Nat.shiftLeft_eq]
theorem compare_mul (a b : Int) (u : Nat) : compare (a * ((2 ^ u : Nat) : Int)) (b * ((2 ^ u : Nat) : Int)) = compare a b := by
  have hp : (0 : Int) < ((2 ^ u : Nat) : Int) := by
    have : 0 < 2 ^ u := Nat.pow_pos (by omega)
    omega
  rcases Int.lt_trichotomy a b with h | h | h
  · rw [Int.compare_eq_lt.2 h, Int.compare_eq_lt.2 (Int.mul_lt_mul_of_pos_right h hp)]
  · rw [h]; simp [compare, compareOfLessAndEq]
  · rw [Int.compare_eq_gt.2 h, Int.compare_eq_gt.2 (Int.mul_lt_mul_of_pos_right h hp)]
theorem order_fw (a b : Bool) {r s : Nat} (hr : r < infR) (hs : s < infR) : double.order (FW a r) (FW b s) = some (compare (sval a r) (sval b s)) := by
  unfold Format.order
  rw [read_fw a hr, read_fw b hs]
  unfold Datum.order
  simp only
  rw [sval_signed, sval_signed]
  obtain ⟨m, hm⟩ : ∃ m, m = min (fexp r) (fexp s) := ⟨_, rfl⟩
  have e1 : (-1074 + (fexp r : Int) - min (-1074 + (fexp r : Int)) (-1074 + (fexp s : Int))).toNat = fexp r - m := by omega
  have e2 : (-1074 + (fexp s : Int) - min (-1074 + (fexp r : Int)) (-1074 + (fexp s : Int))).toNat = fexp s - m := by omega
  rw [e1, e2, ← compare_mul _ _ m, ← signed_mul, ← signed_mul, show fexp r - m + m = fexp r by omega, show fexp s - m + m = fexp s by omega]
theorem cmp_lt (a b : Int) : (some (compare a b) == some Ordering.lt) = decide (a < b) := by
  rcases Int.lt_trichotomy a b with h | h | h
  · rw [Int.compare_eq_lt.2 h]; simp [h]
  · rw [h]; simp [compare, compareOfLessAndEq]
  · rw [Int.compare_eq_gt.2 h]; simp; omega
theorem cmp_eq (a b : Int) : (some (compare a b) == some Ordering.eq) = decide (a = b) := by
  rcases Int.lt_trichotomy a b with h | h | h
  · rw [Int.compare_eq_lt.2 h]; simp; omega
  · rw [h]; simp [compare, compareOfLessAndEq]
  · rw [Int.compare_eq_gt.2 h]; simp; omega
theorem cmp_gt (a b : Int) : (some (compare a b) == some Ordering.gt) = decide (b < a) := by
  rcases Int.lt_trichotomy a b with h | h | h
  · rw [Int.compare_eq_lt.2 h]; simp; omega
  · rw [h]; simp [compare, compareOfLessAndEq]
  · rw [Int.compare_eq_gt.2 h]; simp [h]
theorem S63_two : S63 = 2 ^ 63 := by decide
theorem and_low (x : Nat) : x &&& (S63 - 1) = x % S63 := by rw [S63_two]; exact Nat.and_two_pow_sub_one_eq_mod x 63
theorem abs_bits (neg : Bool) {r : Nat} (h : r < S63) : bits .andNot .u64 ((FW neg r : Nat) : Int) 9223372036854775808 = (r : Int) := by
  have hS : S63 = 9223372036854775808 := rfl
  have hx : FW neg r < 18446744073709551616 := by unfold FW; split <;> omega
  have := u64_andNot_nat (FW neg r) 9223372036854775808 hx (by omega)
  rw [show ((9223372036854775808 : Nat) : Int) = 9223372036854775808 from rfl] at this
  rw [this]
  have e : 18446744073709551615 - 9223372036854775808 = S63 - 1 := by decide
  rw [e, and_low, (read_rung neg h).2]
theorem neg_word (neg : Bool) {r : Nat} (h : r < S63) : Op.negFloat .f64 (FW neg r) = FW (!neg) r := by
  have hb : ∀ y, y < 2 ^ 63 → y ^^^ 2 ^ 63 = 2 ^ 63 + y := fun y hy => by
    have h1 : 2 ^ 63 + y = 2 ^ 63 ||| y := (nat_join 63 (2 ^ 63) y (by decide) hy).symm
    rw [h1]
    apply Nat.eq_of_testBit_eq
    intro i
    rw [Nat.testBit_xor, Nat.testBit_or, Nat.testBit_two_pow]
    by_cases hi : 63 = i
    · subst hi; rw [Nat.testBit_lt_two_pow hy]; simp
    · simp [hi]
  have hS := S63_two
  unfold Op.negFloat
  rw [show FloatKind.f64.format.exponentBits + FloatKind.f64.format.fractionBits = 63 by decide]
  cases neg
  · rw [fw_false, hb r (by omega)]; show _ = S63 + r; omega
  · rw [fw_true, hS, ← hb r (by omega), Nat.xor_assoc, Nat.xor_self, Nat.xor_zero]; rfl
theorem and_2047 (x : Nat) (h : x < 18446744073709551616) : bits .and .u64 (x : Int) 2047 = ((x % 2048 : Nat) : Int) := by
  have := u64_and_nat x 2047 h (by omega)
  rw [show ((2047 : Nat) : Int) = 2047 from rfl] at this
  rw [this, show (2047 : Nat) = 2 ^ 11 - 1 by decide, Nat.and_two_pow_sub_one_eq_mod]
theorem clr_exp (x : Nat) (h : x < S63) : bits .andNot .u64 (x : Int) 9218868437227405312 = ((x % B52 : Nat) : Int) := by
  have hS : S63 = 9223372036854775808 := rfl
  have := u64_andNot_nat x 9218868437227405312 (by omega) (by omega)
  rw [show ((9218868437227405312 : Nat) : Int) = 9218868437227405312 from rfl] at this
  rw [this]
  have e : 18446744073709551615 - 9218868437227405312 = 2 ^ 63 ||| (2 ^ 52 - 1) := by decide
  have hz : x &&& 2 ^ 63 = 0 := by
    apply Nat.eq_of_testBit_eq
    intro i
    rw [Nat.testBit_and, Nat.testBit_two_pow, Nat.zero_testBit]
    by_cases hi : 63 = i
    · subst hi; rw [Nat.testBit_lt_two_pow (by rw [← S63_two]; exact h)]; simp
    · simp [hi]
  rw [e, Nat.and_or_distrib_left, Nat.and_two_pow_sub_one_eq_mod, hz, Nat.zero_or, B52_two]
theorem set_exp (t f : Nat) (h : t < B52) (hf : f < 4096) : bits .or .u64 (t : Int) ((f * B52 : Nat) : Int) = ((f * B52 + t : Nat) : Int) := by
  have hb : B52 = 4503599627370496 := rfl
  have hm : f * B52 ≤ 4095 * B52 := Nat.mul_le_mul_right _ (by omega)
  have hq : 4095 * B52 < 18446744073709551616 := by decide
  have := u64_or_nat t (f * B52) (by omega) (by omega)
  rw [this, Nat.or_comm, nat_join 52 (f * B52) t (by rw [B52_two]; exact Nat.mul_mod_left _ _) (by rw [← B52_two]; exact h)]
end Go.Proofs.Ytndeolcamgnmdaa
