/- The law's walk: the sign of an int. -/
import Derived.Test.YtndeolcamgnmdaaGreatDoorModBaseE
import Derived.Test.YtndeolcamgnmdaaGreatDoorModBaseB
import Derived.Test.YtndeolcamgnmdaaGreatDoorModBaseH
set_option linter.unusedVariables false
set_option linter.unusedSimpArgs false
set_option linter.unnecessarySimpa false
namespace Go.Proofs.YtndeolcamgnmdaaGreatDoor
open Go.RowKit
theorem natOf_lenle {l : List Nat} (hh : l.head? ≠ some 0) (k : Nat) (h : natOf l < 256 ^ k) : l.length ≤ k := by
  cases l with
  | nil => simp
  | cons x r =>
    have hx : x ≠ 0 := fun e => hh (by simp [e])
    have h1 : 256 ^ r.length ≤ natOf (x :: r) := by
      simp only [natOf]
      have := Nat.mul_le_mul_right (256 ^ r.length) (Nat.pos_of_ne_zero hx)
      omega
    have h2 := (Nat.pow_lt_pow_iff_right (a := 256) (by omega)).1 (Nat.lt_of_le_of_lt h1 h)
    simp; omega
theorem sint_head {w : World} {B : Nat} {v : Value} {neg : Bool} {l : List Nat} (h : SInt w B v neg l) : l.head? ≠ some 0 := by
  obtain ⟨_, _, _, h, _⟩ := h
  exact h
theorem intOf2_len {neg : Bool} {l : List Nat} {n : Int} (hh : l.head? ≠ some 0) (hn : intOf2 neg l = n) (h1 : -9223372036854775808 ≤ n) (h2 : n < 18446744073709551616) : l.length ≤ 8 := by
  refine natOf_lenle hh 8 ?_
  have : (256 : Nat) ^ 8 = 18446744073709551616 := by decide
  rw [this]
  cases neg <;> simp [intOf2] at hn <;> omega
theorem pair_facts {w w1 W' : World} {t1 t2 : TypeId} {a b c0 c1 c2 c3 c4 c5 : Value} (hb : Below w.heap.size w w1) (h : Below (w1.heap.size + 1 + 1) ((w1.alloc (.cells #[a, b] t1)).alloc (.cells #[c0, c1, c2, c3, c4, c5] t2)).drew W') :
    (W'.cell? ⟨w1.heap.size, 0, none⟩ = some a ∧ W'.cell? ⟨w1.heap.size, 1, none⟩ = some b ∧ W'.frozen? ⟨w1.heap.size, 0, none⟩ = false ∧ W'.frozen? ⟨w1.heap.size, 1, none⟩ = false) ∧
    (W'.cell? ⟨w1.heap.size + 1, 0, none⟩ = some c0 ∧ W'.cell? ⟨w1.heap.size + 1, 1, none⟩ = some c1 ∧ W'.cell? ⟨w1.heap.size + 1, 2, none⟩ = some c2 ∧ W'.cell? ⟨w1.heap.size + 1, 3, none⟩ = some c3 ∧ W'.cell? ⟨w1.heap.size + 1, 4, none⟩ = some c4 ∧ W'.cell? ⟨w1.heap.size + 1, 5, none⟩ = some c5 ∧
      W'.frozen? ⟨w1.heap.size + 1, 0, none⟩ = false ∧ W'.frozen? ⟨w1.heap.size + 1, 1, none⟩ = false ∧ W'.frozen? ⟨w1.heap.size + 1, 2, none⟩ = false ∧ W'.frozen? ⟨w1.heap.size + 1, 3, none⟩ = false ∧ W'.frozen? ⟨w1.heap.size + 1, 4, none⟩ = false ∧ W'.frozen? ⟨w1.heap.size + 1, 5, none⟩ = false) ∧
    Below w1.heap.size w1 W' ∧ Below w.heap.size w W' := by
  have hw1 : Below w1.heap.size w1 W' := ((((Below.refl _ w1).alloc (Nat.le_refl _) _).alloc (by simp) _).drew).trans (h.mono (by omega))
  refine ⟨blk2 (Blk.below (w' := W') (Blk.drew (Blk.alloc (Blk.new w1 t1 #[a, b]) (.cells #[c0, c1, c2, c3, c4, c5] t2))) h (by omega)),
    blk6 (Blk.below (w' := W') (Blk.drew (Blk.new_at (w1.alloc (.cells #[a, b] t1)) t2 #[c0, c1, c2, c3, c4, c5] (n := w1.heap.size + 1) (by simp))) h (by omega)), hw1, hb.trans (hw1.mono hb.size)⟩
end Go.Proofs.YtndeolcamgnmdaaGreatDoor
