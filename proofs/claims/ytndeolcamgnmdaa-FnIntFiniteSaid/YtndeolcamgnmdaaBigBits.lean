/- The word that big.Float's Float64 puts together: plain arithmetic on the shifted mantissa's top word. -/
import Derived.Test.YtndeolcamgnmdaaNearPlain
namespace Go.Proofs.Ytndeolcamgnmdaa
/-- The 53 bits behind the rounding: of the top word T, with `low` what lies beneath. -/
def roundK (T low : Nat) : Nat := T / 2048 + (if T / 1024 % 2 = 1 ∧ (T % 1024 ≠ 0 ∨ low ≠ 0 ∨ T / 2048 % 2 = 1) then 1 else 0)
theorem roundK_cut (T low X q : Nat) (hX : 2 ^ q = 2048 * X) (hlow : low < X) (hq : 0 < q) : cutG (T * X + low) q = roundK T low := by
  have hX0 : 0 < X := by omega
  rw [cut_spec _ _ hq]
  have hh : 2 ^ (q - 1) = 1024 * X := by
    have : 2 ^ q = 2 * 2 ^ (q - 1) := by rw [← Nat.pow_succ', show (q - 1).succ = q by omega]
    omega
  have hd : (T * X + low) / 2 ^ q = T / 2048 := by
    rw [hX, Nat.mul_comm 2048 X, ← Nat.div_div_eq_div_mul, Nat.mul_comm T X, Nat.mul_add_div hX0, Nat.div_eq_of_lt hlow, Nat.add_zero]
  have hr : (T * X + low) % 2 ^ q = T % 2048 * X + low := by
    have h1 := Nat.div_add_mod (T * X + low) (2 ^ q)
    rw [hd, hX] at h1
    rw [hX]
    have h2 : T * X = 2048 * X * (T / 2048) + T % 2048 * X := by
      have h3 := Nat.div_add_mod T 2048
      calc T * X = (2048 * (T / 2048) + T % 2048) * X := by rw [h3]
        _ = _ := by rw [Nat.add_mul, Nat.mul_assoc, Nat.mul_assoc, Nat.mul_comm (T / 2048) X]
    omega
  rw [hd, hr, hh]
  unfold roundK
  have e1 : T / 1024 % 2 = T % 2048 / 1024 := by omega
  have e2 : T % 1024 = T % 2048 % 1024 := by omega
  rw [e1, e2]
  have ht : T % 2048 < 2048 := Nat.mod_lt _ (by decide)
  generalize T % 2048 = t at ht ⊢
  congr 1
  have hiff : (1024 * X < t * X + low ∨ t * X + low = 1024 * X ∧ T / 2048 % 2 = 1) ↔ (t / 1024 = 1 ∧ (t % 1024 ≠ 0 ∨ low ≠ 0 ∨ T / 2048 % 2 = 1)) := by
    rcases Nat.lt_trichotomy t 1024 with h | h | h
    · have h5 : (t + 1) * X ≤ 1024 * X := Nat.mul_le_mul_right _ h
      rw [Nat.add_mul, Nat.one_mul] at h5
      have h6 : t / 1024 = 0 := Nat.div_eq_of_lt h
      rw [h6]
      constructor <;> intro h <;> omega
    · subst h
      rw [show 1024 / 1024 = 1 by decide, show 1024 % 1024 = 0 by decide]
      constructor
      · intro h
        refine ⟨rfl, ?_⟩
        rcases h with h | ⟨_, h⟩
        · right; left; omega
        · right; right; exact h
      · rintro ⟨_, h | h | h⟩
        · exact absurd rfl h
        · left; omega
        · by_cases hl : low = 0
          · right; exact ⟨by omega, h⟩
          · left; omega
    · have h5 : 1025 * X ≤ t * X := Nat.mul_le_mul_right _ h
      have h6 : t / 1024 = 1 := by omega
      have h7 : t % 1024 ≠ 0 := by omega
      rw [h6]
      constructor
      · intro _; exact ⟨rfl, Or.inl h7⟩
      · intro _; left; omega
  by_cases hc : (t / 1024 = 1 ∧ (t % 1024 ≠ 0 ∨ low ≠ 0 ∨ T / 2048 % 2 = 1))
  · rw [if_pos hc, if_pos (hiff.2 hc)]
  · rw [if_neg hc, if_neg (fun h => hc (hiff.1 h))]
theorem cut_scale (N p s : Nat) (hp : 0 < p) : cutG (N * 2 ^ s) (p + s) = cutG N p := by
  have hs : 0 < 2 ^ s := Nat.pow_pos (by decide)
  rw [cut_spec _ _ hp, cut_spec _ _ (by omega)]
  have e1 : N * 2 ^ s / 2 ^ (p + s) = N / 2 ^ p := by rw [Nat.pow_add, Nat.mul_div_mul_right _ _ hs]
  have e2 : N * 2 ^ s % 2 ^ (p + s) = N % 2 ^ p * 2 ^ s := by rw [Nat.pow_add, Nat.mul_mod_mul_right]
  have e3 : 2 ^ (p + s - 1) = 2 ^ (p - 1) * 2 ^ s := by rw [← Nat.pow_add]; congr 1; omega
  rw [e1, e2, e3]
  simp only [Nat.mul_lt_mul_right hs, Nat.mul_left_inj (Nat.ne_of_gt hs)]
/-- The rung of the float nearest to N, by the mantissa's top word T (N shifted left by s fills m words). -/
theorem big_bits (N L m s T low : Nat) (hL : N.log2 + 1 = L) (h0 : N ≠ 0) (hm : 0 < m) (hs : L + s = 64 * m)
    (hM : N * 2 ^ s = T * 2 ^ (64 * (m - 1)) + low) (hlow : low < 2 ^ (64 * (m - 1))) : rint N = min ((L + 1021) * B52 + roundK T low) infR := by
  have hq : 2 ^ (64 * m - 53) = 2048 * 2 ^ (64 * (m - 1)) := by
    rw [show (2048 : Nat) = 2 ^ 11 by decide, ← Nat.pow_add]; congr 1; omega
  have hK := roundK_cut T low _ _ hq hlow (by omega)
  rw [← hM] at hK
  rw [← hK]
  by_cases hb : 53 ≤ N.log2
  · rw [rint_big N (by omega)]
    have e : 64 * m - 53 = (N.log2 - 52) + s := by omega
    rw [e, cut_scale _ _ _ (by omega), show L + 1021 = N.log2 + 1022 by omega]
  · obtain ⟨h1, h2, h3⟩ := rint_small N h0 (by omega)
    rw [h1]
    have e : N * 2 ^ s = N * 2 ^ (52 - N.log2) * 2 ^ (64 * m - 53) := by
      rw [Nat.mul_assoc, ← Nat.pow_add]; congr 2; omega
    rw [cut_spec _ _ (by omega), e, Nat.mul_div_cancel _ (Nat.pow_pos (by decide)), Nat.mul_mod_left]
    have hp : 0 < 2 ^ (64 * m - 53 - 1) := Nat.pow_pos (by decide)
    rw [if_neg (by omega), Nat.add_zero, show L + 1021 = N.log2 + 1022 by omega, infR_eq]
    have h5 : (N.log2 + 1022) * B52 ≤ 1074 * B52 := Nat.mul_le_mul_right _ (by omega)
    clear h1 h2 e hK hM hq
    revert h3 h5
    generalize N * 2 ^ (52 - N.log2) = Y
    generalize (N.log2 + 1022) * B52 = Z
    generalize B52 = b
    intro h3 h5
    rw [Nat.min_eq_left]
    all_goals omega
end Go.Proofs.Ytndeolcamgnmdaa
