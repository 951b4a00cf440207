/- Words shifted by a few bits, word by word: plain arithmetic. -/
import Derived.Test.YtndeolcamgnmdaaGreatDoorModBaseC
import Derived.Laws.BitsAllLaws
set_option linter.unusedVariables false
set_option linter.unusedSimpArgs false
set_option linter.unnecessarySimpa false
namespace Go.Proofs.YtndeolcamgnmdaaGreatDoor
open Go.RowKit
theorem two_split (s : Nat) (hs : s ≤ 64) : W64 = 2 ^ s * 2 ^ (64 - s) := by
  rw [W64_two, ← Nat.pow_add]; congr 1; omega
/-- A word times 2^s: what falls out of it at the top. -/
theorem shl_div (x s : Nat) (hs : s ≤ 64) : x * 2 ^ s / W64 = x / 2 ^ (64 - s) := by
  rw [two_split s hs, Nat.mul_comm x, Nat.mul_div_mul_left _ _ (Nat.pow_pos (by decide))]
theorem shl_mod (x s : Nat) (hs : s ≤ 64) : x * 2 ^ s % W64 = 2 ^ s * (x % 2 ^ (64 - s)) := by
  rw [two_split s hs, Nat.mul_comm x, Nat.mul_mod_mul_left]
theorem shl_parts (x s : Nat) (hs : s ≤ 64) : x * 2 ^ s = x * 2 ^ s % W64 + W64 * (x / 2 ^ (64 - s)) := by
  rw [← shl_div x s hs]; exact (Nat.mod_add_div _ _).symm
theorem shr_small (y s : Nat) (hs : s ≤ 64) (hy : y < W64) : y / 2 ^ (64 - s) < 2 ^ s := by
  rw [Nat.div_lt_iff_lt_mul (Nat.pow_pos (by decide)), ← two_split s hs]; exact hy
theorem or_disj (a b s : Nat) (hb : b < 2 ^ s) : 2 ^ s * a ||| b = 2 ^ s * a + b := by
  rw [Nat.mul_comm, ← Nat.shiftLeft_eq, Nat.shiftLeft_add_eq_or_of_lt hb]
theorem bits_or (x y : Nat) (hx : x < W64) (hy : y < W64) : bits .or .u64 (x : Int) (y : Int) = ((x ||| y : Nat) : Int) := u64_or_nat x y hx hy
/-- One step of a shift to the left, from the top. -/
theorem shl_word (x y s : Nat) (hs : s ≤ 64) (hy : y < W64) : (x * 2 ^ s % W64 ||| y / 2 ^ (64 - s)) = x * 2 ^ s % W64 + y / 2 ^ (64 - s) ∧ x * 2 ^ s % W64 + y / 2 ^ (64 - s) < W64 := by
  have h1 := shr_small y s hs hy
  rw [shl_mod x s hs]
  refine ⟨or_disj _ _ _ h1, ?_⟩
  have h2 : x % 2 ^ (64 - s) < 2 ^ (64 - s) := Nat.mod_lt _ (Nat.pow_pos (by decide))
  have h3 : 2 ^ s * (x % 2 ^ (64 - s) + 1) ≤ W64 := by rw [two_split s hs]; exact Nat.mul_le_mul_left _ h2
  rw [Nat.mul_add, Nat.mul_one] at h3
  omega
theorem shl_alg (B V D c w0 P S lo hi m r : Nat) (h : V + P * c = D * S + hi) (hr : r = m + lo) (h1 : w0 * S = m + B * hi) :
    (r + B * V) + B * P * c = (w0 + B * D) * S + lo := by grind
theorem shl_step (V D c w0 P s lo : Nat) (r : Nat) (hs : s ≤ 64) (h : V + P * c = D * 2 ^ s + w0 / 2 ^ (64 - s)) (hr : r = w0 * 2 ^ s % W64 + lo) :
    (r + W64 * V) + W64 * P * c = (w0 + W64 * D) * 2 ^ s + lo :=
  shl_alg W64 V D c w0 P (2 ^ s) lo _ _ r h hr (shl_parts w0 s hs)
/-- One step of a shift to the right, from the bottom. -/
theorem shr_word (x y s : Nat) (hs : s ≤ 64) (hx : x < W64) : (x / 2 ^ s ||| y * 2 ^ (64 - s) % W64) = x / 2 ^ s + y * 2 ^ (64 - s) % W64 ∧ x / 2 ^ s + y * 2 ^ (64 - s) % W64 < W64 := by
  have h := shl_word y x (64 - s) (by omega) hx
  have e : 64 - (64 - s) = s := by omega
  rw [e] at h
  rw [Nat.or_comm, Nat.add_comm]
  exact h
end Go.Proofs.YtndeolcamgnmdaaGreatDoor
