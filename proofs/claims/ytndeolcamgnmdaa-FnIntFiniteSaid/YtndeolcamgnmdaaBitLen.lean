/- How many bits a number has: plain. -/
import Derived.Test.YtndeolcamgnmdaaBigInt
import Derived.Lib.BitFns
import Derived.Laws.Bits64b
namespace Go.Proofs.Ytndeolcamgnmdaa
open Go.RowKit
theorem W64_two : W64 = 2 ^ 64 := by unfold W64; decide
theorem bitLenAux_le : ∀ (f x m : Nat), x < 2 ^ f → (Lib.bitLenAux f x ≤ m ↔ x < 2 ^ m)
  | 0, x, m, h => by
    have : x = 0 := by simpa using h
    subst this
    simp [Lib.bitLenAux]
    exact Nat.pow_pos (by omega)
  | f + 1, x, m, h => by
    rw [Lib.bitLenAux]
    by_cases h0 : x = 0
    · subst h0
      simp
      exact Nat.pow_pos (by omega)
    · rw [if_neg h0]
      have hx : x / 2 < 2 ^ f := by rw [Nat.pow_succ] at h; omega
      cases m with
      | zero => simp; omega
      | succ m =>
        have ih := bitLenAux_le f (x / 2) m hx
        rw [Nat.pow_succ]
        omega
theorem bitLen_le (x m : Nat) (h : x < W64) : Lib.bitLen x ≤ m ↔ x < 2 ^ m := bitLenAux_le 64 x m (by rw [← W64_two]; exact h)
theorem or_shift (x k m : Nat) : (x ||| x / 2 ^ k) < 2 ^ m ↔ x < 2 ^ m := by
  constructor
  · intro h
    exact Nat.lt_of_le_of_lt Nat.left_le_or h
  · intro h
    exact Nat.or_lt_two_pow h (Nat.lt_of_le_of_lt (Nat.div_le_self _ _) h)
theorem or_lt64 (x k : Nat) (h : x < W64) : (x ||| x / 2 ^ k) < W64 := by rw [W64_two] at *; exact (or_shift x k 64).2 h
theorem bitLen_or (x k : Nat) (h : x < W64) : Lib.bitLen (x ||| x / 2 ^ k) = Lib.bitLen x := by
  have h2 := or_lt64 x k h
  have a := (bitLen_le x (Lib.bitLen (x ||| x / 2 ^ k)) h).2 ((or_shift x k _).1 ((bitLen_le _ _ h2).1 (Nat.le_refl _)))
  have b := (bitLen_le (x ||| x / 2 ^ k) (Lib.bitLen x) h2).2 ((or_shift x k _).2 ((bitLen_le _ _ h).1 (Nat.le_refl _)))
  omega
theorem bitLen_64 (x : Nat) (h : x < W64) : Lib.bitLen x ≤ 64 := (bitLen_le x 64 h).2 (by rw [← W64_two]; exact h)
theorem bitLen_pos (x : Nat) (h : x < W64) (h0 : x ≠ 0) : 1 ≤ Lib.bitLen x := by
  have := bitLen_le x 0 h
  simp at this
  omega
/-- How many bits words have. -/
def blen (ws : List Nat) : Nat := match ws.getLast? with
  | none => 0
  | some x => 64 * (ws.length - 1) + Lib.bitLen x
theorem blen_le (ws : List Nat) (m : Nat) (ht : TopNZ ws) (hw : ∀ x ∈ ws, x < W64) : blen ws ≤ m ↔ valW ws < 2 ^ m := by
  by_cases h0 : ws = []
  · subst h0
    simp [blen, valW]
    exact Nat.pow_pos (by omega)
  · obtain ⟨init, last, rfl⟩ : ∃ init last, ws = init ++ [last] := ⟨ws.dropLast, ws.getLast h0, (List.dropLast_concat_getLast h0).symm⟩
    have hl0 : last ≠ 0 := by unfold TopNZ at ht; simpa using ht
    have hlw : last < W64 := hw last (by simp)
    have hi := valW_lt init (fun x hx => hw x (by simp [hx]))
    have hb : blen (init ++ [last]) = 64 * init.length + Lib.bitLen last := by simp [blen]
    have hv : valW (init ++ [last]) = valW init + W64 ^ init.length * last := by rw [valW_append]; simp [valW]
    have hp : W64 ^ init.length = 2 ^ (64 * init.length) := by rw [W64_two, ← Nat.pow_mul]
    have h1 := bitLen_pos last hlw hl0
    rw [hb, hv, hp]
    rw [hp] at hi
    by_cases hm : 64 * init.length ≤ m
    · obtain ⟨d, rfl⟩ : ∃ d, m = 64 * init.length + d := ⟨m - 64 * init.length, by omega⟩
      rw [Nat.pow_add]
      have h2 := bitLen_le last d hlw
      have h3 : 64 * init.length + Lib.bitLen last ≤ 64 * init.length + d ↔ Lib.bitLen last ≤ d := by omega
      rw [h3, h2]
      generalize 2 ^ (64 * init.length) = P at *
      generalize 2 ^ d = Q at *
      constructor
      · intro h
        have := Nat.mul_le_mul_left P (show last + 1 ≤ Q from h)
        rw [Nat.mul_add, Nat.mul_one] at this
        omega
      · intro h
        by_cases hq : last < Q
        · exact hq
        · exfalso
          have := Nat.mul_le_mul_left P (show Q ≤ last by omega)
          omega
    · have h4 := Nat.pow_le_pow_right (n := 2) (by omega) (show m ≤ 64 * init.length by omega)
      have h5 : 2 ^ (64 * init.length) * 1 ≤ 2 ^ (64 * init.length) * last := Nat.mul_le_mul_left _ (by omega)
      constructor
      · intro h; omega
      · intro h; omega
theorem blen_bound (ws : List Nat) (hl : ws.length ≤ 1000) (hw : ∀ x ∈ ws, x < W64) : blen ws ≤ 64000 := by
  unfold blen
  cases h : ws.getLast? with
  | none => simp
  | some x =>
    have := bitLen_64 x (hw x (List.mem_of_getLast? h))
    simp only []
    omega
end Go.Proofs.Ytndeolcamgnmdaa
