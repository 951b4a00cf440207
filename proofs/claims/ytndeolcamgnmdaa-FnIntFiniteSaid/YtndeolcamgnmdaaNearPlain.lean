/- What the reference's steps to the nearest float come to: plain arithmetic. -/
import Derived.Test.YtndeolcamgnmdaaFltInt
import Derived.Test.YtndeolcamgnmdaaDig
namespace Go.Proofs.Ytndeolcamgnmdaa
theorem isLen_log {N k : Nat} (h : IsLen N k) (h0 : N ≠ 0) : N.log2 + 1 = k := by
  obtain ⟨h1, h2⟩ := h
  rcases h2 with rfl | h2
  · simp at h1; omega
  · have hk : 0 < k := by
      rcases Nat.eq_zero_or_pos k with rfl | h
      · simp at h1; omega
      · exact h
    have : N.log2 = k - 1 := (Nat.log2_eq_iff h0).2 ⟨h2, by rw [show k - 1 + 1 = k by omega]; exact h1⟩
    omega
theorem cut_spec (N p : Nat) (hp : 0 < p) : cutG N p = N / 2 ^ p + (if 2 ^ (p - 1) < N % 2 ^ p ∨ (N % 2 ^ p = 2 ^ (p - 1) ∧ N / 2 ^ p % 2 = 1) then 1 else 0) := by
  unfold cutG
  have e : 2 ^ p = 2 * 2 ^ (p - 1) := by
    rw [← Nat.pow_succ', show (p - 1).succ = p by omega]
  generalize hq : N / 2 ^ p = q
  generalize hr : N % 2 ^ p = r
  congr 1
  rw [e]
  generalize 2 ^ (p - 1) = P
  have h1 : (2 * P < 2 * r) ↔ P < r := by omega
  have h2 : (2 * P == 2 * r) = decide (r = P) := by rw [Bool.eq_iff_iff, beq_iff_eq, decide_eq_true_iff]; omega
  rw [h2]
  simp only [h1]
  by_cases a : P < r
  · simp [a]
  · by_cases b : r = P
    · by_cases c : q % 2 = 1 <;> simp [a, b, c]
    · simp [a, b]
/-- What is kept, rounded; and the power that goes with it. -/
def nearK (N p : Nat) : Nat := if p = 0 then N else cutG N p
def nearK2 (N p : Nat) : Nat := if 2 ^ 53 ≤ nearK N p then nearK N p / 2 else nearK N p
def nearP2 (N p : Nat) : Nat := if 2 ^ 53 ≤ nearK N p then p + 1 else p
theorem near_fin (N k : Nat) (h0 : N ≠ 0) (hk : IsLen N k) :
    nearK N (k - 53) ≤ 2 ^ 53 ∧ nearK2 N (k - 53) ≠ 0 ∧ nearK2 N (k - 53) < 2 ^ 53 ∧ ∀ j, IsLen (nearK2 N (k - 53)) j →
      (1024 < j + nearP2 N (k - 53) → rint N = infR) ∧ (j + nearP2 N (k - 53) ≤ 1024 → rint N = rint (nearK2 N (k - 53)) + nearP2 N (k - 53) * B52 ∧ rint N < infR) := by
  have hlog := isLen_log hk h0
  have hNk : N < 2 ^ k := hk.1
  have hNk2 : 2 ^ (k - 1) ≤ N := by
    have := Nat.log2_self_le h0
    rw [show N.log2 = k - 1 by omega] at this
    exact this
  have b53 : (2 : Nat) ^ 53 = 2 * B52 := by decide
  have hB := B52_pos
  by_cases hp : k ≤ 53
  · have e0 : k - 53 = 0 := by omega
    have e1 : nearK N (k - 53) = N := by unfold nearK; rw [if_pos e0]
    have hN53 : N < 2 ^ 53 := Nat.lt_of_lt_of_le hNk (Nat.pow_le_pow_right (by omega) hp)
    have e2 : nearK2 N (k - 53) = N := by unfold nearK2; rw [e1, if_neg (by omega)]
    have e3 : nearP2 N (k - 53) = 0 := by unfold nearP2; rw [e1, if_neg (by omega), e0]
    rw [e1, e2, e3]
    refine ⟨by omega, h0, hN53, fun j hj => ?_⟩
    have hjk := isLen_log hj h0
    refine ⟨fun h => by omega, fun _ => ⟨by omega, ?_⟩⟩
    obtain ⟨r1, r2, r3⟩ := rint_small N h0 (by omega)
    rw [r1, infR_eq]
    have : (N.log2 + 1022) * B52 ≤ 1074 * B52 := Nat.mul_le_mul_right _ (by omega)
    omega
  · obtain ⟨p, hpp⟩ : ∃ p, p = k - 53 := ⟨_, rfl⟩
    have hp0 : 0 < p := by omega
    rw [← hpp]
    have hrb := rint_big N (by omega)
    have eL : N.log2 - 52 = p := by omega
    have eM : N.log2 + 1022 = p + 1074 := by omega
    rw [eL, eM] at hrb
    have e1 : nearK N p = cutG N p := by unfold nearK; rw [if_neg (by omega)]
    have q1 : 2 ^ 52 ≤ N / 2 ^ p := by
      rw [Nat.le_div_iff_mul_le (Nat.pow_pos (by omega)), ← Nat.pow_add, show 52 + p = k - 1 by omega]
      exact hNk2
    have q2 : N / 2 ^ p < 2 ^ 53 := by
      rw [Nat.div_lt_iff_lt_mul (Nat.pow_pos (by omega)), ← Nat.pow_add, show 53 + p = k by omega]
      exact hNk
    have c1 : N / 2 ^ p ≤ cutG N p ∧ cutG N p ≤ N / 2 ^ p + 1 := by
      rw [cut_spec N p hp0]
      split <;> omega
    have b52 : (2 : Nat) ^ 52 = B52 := by decide
    generalize hK : cutG N p = K at hrb e1 c1
    rw [b52] at q1
    by_cases hov : 2 ^ 53 ≤ K
    · have hK53 : K = 2 * B52 := by omega
      have e2 : nearK2 N p = B52 := by unfold nearK2; rw [e1, if_pos hov]; omega
      have e3 : nearP2 N p = p + 1 := by unfold nearP2; rw [e1, if_pos hov]
      rw [e1, e2, e3]
      refine ⟨by omega, by omega, by omega, fun j hj => ?_⟩
      have hj53 : j = 53 := by
        have := isLen_log hj (by omega)
        rw [log2_B (Nat.le_refl _) (by omega)] at this
        omega
      obtain ⟨r1, _, _⟩ := rint_small B52 (by omega) (by rw [log2_B (Nat.le_refl _) (by omega)]; omega)
      rw [log2_B (Nat.le_refl _) (by omega)] at r1
      simp only [Nat.sub_self, Nat.pow_zero, Nat.mul_one] at r1
      rw [hK53] at hrb
      have m1 : (p + 1074) * B52 + 2 * B52 = (p + 1076) * B52 := by rw [← Nat.add_mul]
      rw [m1] at hrb
      subst hj53
      refine ⟨fun h => ?_, fun h => ?_⟩
      · rw [hrb, infR_eq]
        exact Nat.min_eq_right (Nat.mul_le_mul_right _ (by omega))
      · have hlt : (p + 1076) * B52 < infR := by rw [infR_eq]; exact Nat.mul_lt_mul_of_pos_right (by omega) hB
        rw [Nat.min_eq_left (Nat.le_of_lt hlt)] at hrb
        refine ⟨?_, by omega⟩
        rw [hrb, r1, show p + 1076 = 52 + 1022 + 1 + (p + 1) by omega, Nat.add_mul, Nat.add_mul, Nat.one_mul]
    · have e2 : nearK2 N p = K := by unfold nearK2; rw [e1, if_neg hov]
      have e3 : nearP2 N p = p := by unfold nearP2; rw [e1, if_neg hov]
      rw [e1, e2, e3]
      have hKl : B52 ≤ K := by omega
      have hKu : K < 2 * B52 := by omega
      refine ⟨by omega, by omega, by omega, fun j hj => ?_⟩
      have hj53 : j = 53 := by
        have := isLen_log hj (by omega)
        rw [log2_B hKl hKu] at this
        omega
      obtain ⟨r1, _, _⟩ := rint_small K (by omega) (by rw [log2_B hKl hKu]; omega)
      rw [log2_B hKl hKu] at r1
      simp only [Nat.sub_self, Nat.pow_zero, Nat.mul_one] at r1
      subst hj53
      refine ⟨fun h => ?_, fun h => ?_⟩
      · rw [hrb, infR_eq]
        refine Nat.min_eq_right ?_
        have : 2046 * B52 ≤ (p + 1074) * B52 := Nat.mul_le_mul_right _ (by omega)
        omega
      · have hle : (p + 1074) * B52 ≤ 2045 * B52 := Nat.mul_le_mul_right _ (by omega)
        have hlt : (p + 1074) * B52 + K < infR := by rw [infR_eq]; omega
        rw [Nat.min_eq_left (Nat.le_of_lt hlt)] at hrb
        refine ⟨?_, by omega⟩
        rw [hrb, r1, show p + 1074 = 52 + 1022 + p by omega, Nat.add_mul]
        omega
end Go.Proofs.Ytndeolcamgnmdaa
