/- How many bytes a number of 64 bits has (as in IntSignLaw; for seats without it). -/
import Derived.Test.YtndeolcamgnmdaaSmall
namespace Go.Proofs.Ytndeolcamgnmdaa
theorem natOf_lenle {l : List Nat} (hh : l.head? ≠ some 0) (k : Nat) (h : natOf l < 256 ^ k) : l.length ≤ k := by
  cases l with
  | nil => simp
  | cons x r =>
    have hx : x ≠ 0 := fun e => hh (by simp [e])
    have h1 : 256 ^ r.length ≤ natOf (x :: r) := by
      simp only [natOf]
      have := Nat.mul_le_mul_right (256 ^ r.length) (Nat.pos_of_ne_zero hx)
      omega
    have h2 := (Nat.pow_lt_pow_iff_right (a := 256) (by omega)).1 (Nat.lt_of_le_of_lt h1 h)
    simp; omega
theorem sint_head {w : World} {B : Nat} {v : Value} {neg : Bool} {l : List Nat} (h : SInt w B v neg l) : l.head? ≠ some 0 := by
  obtain ⟨_, _, _, h, _⟩ := h
  exact h
theorem intOf2_len {neg : Bool} {l : List Nat} {n : Int} (hh : l.head? ≠ some 0) (hn : intOf2 neg l = n) (h1 : -9223372036854775808 ≤ n) (h2 : n < 18446744073709551616) : l.length ≤ 8 := by
  refine natOf_lenle hh 8 ?_
  have : (256 : Nat) ^ 8 = 18446744073709551616 := by decide
  rw [this]
  cases neg <;> simp [intOf2] at hn <;> omega
end Go.Proofs.Ytndeolcamgnmdaa
