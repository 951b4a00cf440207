/- What the floor leaves of two integers: plain; two small ints. -/
import Derived.Test.YtndeolcamgnmdaaGreatDoorFloorT
import Derived.Test.YtndeolcamgnmdaaGreatDoorModBaseF
import Derived.Test.YtndeolcamgnmdaaGreatDoorModBaseG
import Derived.Test.YtndeolcamgnmdaaGreatDoorQuoRem
import Derived.Test.YtndeolcamgnmdaaGreatDoorIntAddO
set_option linter.unusedVariables false
set_option linter.unusedSimpArgs false
set_option linter.unnecessarySimpa false
namespace Go.Proofs.YtndeolcamgnmdaaGreatDoor
open Go.RowKit
/-- What the floor of n / m leaves, m not 0. -/
def imod (n m : Int) : Int := if 0 < m then n % m else -((-n) % (-m))
def sgI (b : Bool) (A : Nat) : Int := if b then -(A : Int) else (A : Int)
theorem neg_mod (A B : Nat) (hB : 0 < B) : (-(A : Int)) % (B : Int) = if A % B = 0 then 0 else ((B - A % B : Nat) : Int) := by
  have h := Nat.div_add_mod A B
  have hl := Nat.mod_lt A hB
  by_cases h0 : A % B = 0
  · rw [if_pos h0]
    exact Int.emod_eq_zero_of_dvd (Int.dvd_neg.2 (Int.natCast_dvd_natCast.2 (Nat.dvd_of_mod_eq_zero h0)))
  · rw [if_neg h0]
    generalize A / B = q at *
    generalize A % B = r at *
    have e : -(A : Int) = ((B - r : Nat) : Int) + (B : Int) * (-(q : Int) - 1) := by
      rw [Int.mul_sub, Int.mul_neg, Int.mul_one]
      have hp : (B : Int) * (q : Int) = ((B * q : Nat) : Int) := by simp
      rw [hp]
      omega
    rw [e, Int.add_mul_emod_self_left]
    exact Int.emod_eq_of_lt (by omega) (by omega)
theorem flr_imod (xn yn : Bool) (A B : Nat) (hB : 0 < B) : imod (sgI xn A) (sgI yn B) = flr xn yn A B := by
  have hn := neg_mod A B hB
  have hp : (A : Int) % (B : Int) = ((A % B : Nat) : Int) := by simp
  cases yn
  · have hpos : (0 : Int) < sgI false B := by simp [sgI]; omega
    unfold imod
    rw [if_pos hpos]
    cases xn
    · rw [flr_same]; exact hp
    · show (-(A : Int)) % (B : Int) = flr true false A B
      rw [hn]
      by_cases h0 : A % B = 0
      · rw [if_pos h0]; exact (flr_zero false A B h0).symm
      · rw [if_neg h0]; exact (flr_apart false A B h0).symm
  · have hpos : ¬ (0 : Int) < sgI true B := by simp [sgI]
    unfold imod
    rw [if_neg hpos]
    cases xn
    · show -((-(A : Int)) % (- -(B : Int))) = flr false true A B
      rw [Int.neg_neg, hn]
      by_cases h0 : A % B = 0
      · rw [if_pos h0]; exact (flr_zero true A B h0).symm
      · rw [if_neg h0]; exact (flr_apart true A B h0).symm
    · show -((- -(A : Int)) % (- -(B : Int))) = flr true true A B
      rw [Int.neg_neg, Int.neg_neg, hp, flr_same]
      simp
theorem sgI_abs (n : Int) : n = sgI (decide (n < 0)) n.natAbs := by
  unfold sgI
  by_cases h : n < 0
  · simp [h]; omega
  · simp [h]; omega
theorem tmod_sg (xn yn : Bool) (A B : Nat) : (sgI xn A).tmod (sgI yn B) = sgI xn (A % B) := by
  cases xn <;> cases yn <;> simp [sgI, Int.neg_tmod, Int.tmod_neg, Int.tmod_eq_emod_of_nonneg]
theorem sgI_zero (b : Bool) (A : Nat) : sgI b A = 0 ↔ A = 0 := by cases b <;> simp [sgI]
/-- What a small division leaves, put right. -/
theorem small_mod (n m : Int) (hm : m ≠ 0) : (decide (n < 0) = decide (m < 0) → imod n m = n.tmod m) ∧ (decide (n < 0) ≠ decide (m < 0) → n.tmod m = 0 → imod n m = n.tmod m) ∧ (decide (n < 0) ≠ decide (m < 0) → n.tmod m ≠ 0 → imod n m = n.tmod m + m) := by
  have hn := sgI_abs n
  have hmm := sgI_abs m
  obtain ⟨xn, hxn⟩ : ∃ b, b = decide (n < 0) := ⟨_, rfl⟩
  obtain ⟨yn, hyn⟩ : ∃ b, b = decide (m < 0) := ⟨_, rfl⟩
  obtain ⟨A, hA⟩ : ∃ a, a = n.natAbs := ⟨_, rfl⟩
  obtain ⟨B, hB⟩ : ∃ a, a = m.natAbs := ⟨_, rfl⟩
  have hB0 : 0 < B := by omega
  rw [← hxn, ← hyn]
  rw [← hxn, ← hA] at hn
  rw [← hyn, ← hB] at hmm
  have hl := Nat.mod_lt A hB0
  clear hxn hyn hA hB
  subst hn hmm
  rw [tmod_sg, flr_imod _ _ _ _ hB0, sgI_zero]
  refine ⟨fun h => ?_, fun h h0 => ?_, fun h h0 => ?_⟩
  · subst h; rw [flr_same]; rfl
  · have e : xn = !yn := by cases xn <;> cases yn <;> simp_all
    subst e
    rw [flr_zero yn A B h0, h0]; cases yn <;> rfl
  · have e : xn = !yn := by cases xn <;> cases yn <;> simp_all
    subst e
    rw [flr_apart yn A B (fun e => h0 ((sgI_zero _ _).2 e))]
    cases yn <;> simp [sgI] <;> omega
theorem imod_small (n m : Int) (hm : m ≠ 0) (h : smallB m = true) : smallB (imod n m) = true := by
  have h1 := of_decide_eq_true h
  unfold smallB
  apply decide_eq_true
  unfold imod
  by_cases hp : 0 < m
  · rw [if_pos hp]
    have h2 := Int.emod_nonneg n hm
    have h3 := Int.emod_lt_of_pos n hp
    omega
  · rw [if_neg hp]
    have hp2 : 0 < -m := by omega
    have h2 := Int.emod_nonneg (-n) (show -m ≠ 0 by omega)
    have h3 := Int.emod_lt_of_pos (-n) hp2
    omega
theorem tmod_range (n m : Int) (h0 : -2147483648 ≤ n) (h1 : n < 2147483648) : -2147483648 ≤ n.tmod m ∧ n.tmod m < 2147483648 := by
  have hn := sgI_abs n
  have hm := sgI_abs m
  rw [hn, hm, tmod_sg]
  have h2 := Nat.mod_le n.natAbs m.natAbs
  unfold sgI
  by_cases h : n < 0
  · simp [h]; omega
  · simp [h]; omega
end Go.Proofs.YtndeolcamgnmdaaGreatDoor
