/- Two words divided by one, by the reciprocal of the divisor. -/
import Derived.Test.YtndeolcamgnmdaaGreatDoorDiv64
import Derived.Test.YtndeolcamgnmdaaGreatDoorBitsAdd
set_option linter.unusedVariables false
set_option linter.unusedSimpArgs false
set_option linter.unnecessarySimpa false
namespace Go.Proofs.YtndeolcamgnmdaaGreatDoor
open Go.RowKit
theorem drewN_zero (w : World) : w.drewN 0 = w := rfl
theorem div64_any (hi lo y : Nat) (h : hi = 0 ∨ 9223372036854775808 ≤ y) (hhy : hi < y) (hlo : lo < W64) (hy64 : y < W64) (w : World) :
    Calls Tryz.prog 101 #[.int .u64 (hi : Int), .int .u64 (lo : Int), .int .u64 (y : Int)] w fun e w' => e = .returned (.tuple #[.int .u64 (((hi * W64 + lo) / y : Nat) : Int), .int .u64 (((hi * W64 + lo) % y : Nat) : Int)]) ∧ ∃ n, w' = w.drewN n := by
  rcases Nat.eq_zero_or_pos hi with h0 | h0
  · subst h0
    rw [Nat.zero_mul, Nat.zero_add]
    exact div64_zero lo y hhy hlo w
  · refine (div64_norm hi lo y (by omega) hy64 h0 hhy hlo w).mono ?_
    rintro e w' ⟨he, rfl⟩
    exact ⟨he, 0, rfl⟩
theorem div_any (hi lo y : Nat) (h : hi = 0 ∨ 9223372036854775808 ≤ y) (hhy : hi < y) (hlo : lo < W64) (hy64 : y < W64) (w : World) :
    Calls Tryz.prog 81 #[.int .u64 (hi : Int), .int .u64 (lo : Int), .int .u64 (y : Int)] w fun e w' => e = .returned (.tuple #[.int .u64 (((hi * W64 + lo) / y : Nat) : Int), .int .u64 (((hi * W64 + lo) % y : Nat) : Int)]) ∧ ∃ n, w' = w.drewN n := by
  have HC := Lib.hid (div64_any hi lo y h hhy hlo hy64 w)
  have hq : (hi * W64 + lo) / y < W64 := by
    rw [Nat.div_lt_iff_lt_mul (by omega)]
    have : (hi + 1) * W64 ≤ y * W64 := Nat.mul_le_mul_right _ hhy
    rw [Nat.mul_comm W64 y]
    rw [Nat.add_mul, Nat.one_mul] at this
    omega
  have hr : (hi * W64 + lo) % y < y := Nat.mod_lt _ (by omega)
  obtain ⟨q, hqe⟩ : ∃ q, q = (hi * W64 + lo) / y := ⟨_, rfl⟩
  obtain ⟨r, hre⟩ : ∃ r, r = (hi * W64 + lo) % y := ⟨_, rfl⟩
  rw [← hqe] at hq
  rw [← hre] at hr
  rw [← hqe, ← hre] at HC ⊢
  unfold W64 at hq hlo hy64
  have w1 : IntKind.u64.wrap (hi : Int) = (hi : Int) := wrap64_small _ (by omega) (by omega)
  have w2 : IntKind.u64.wrap (lo : Int) = (lo : Int) := wrap64_small _ (by omega) (by omega)
  have w3 : IntKind.u64.wrap (y : Int) = (y : Int) := wrap64_small _ (by omega) (by omega)
  have w4 : IntKind.u64.wrap (q : Int) = (q : Int) := wrap64_small _ (by omega) (by omega)
  have w5 : IntKind.u64.wrap (r : Int) = (r : Int) := wrap64_small _ (by omega) (by omega)
  clear hqe hre h
  go_enter Tryz.func81, Tryz.ntmps81
  go_wp2_with fail
  refine HC.out.mono ?_
  rintro e w' ⟨rfl, n, rfl⟩
  go_wp2
  go_ret2
  exact ⟨rfl, n, rfl⟩
/-- How far a word is shifted to be normalized. -/
def nz (d : Nat) : Nat := 64 - Lib.bitLen d
theorem nz_norm (d : Nat) (h0 : 0 < d) (h : d < W64) : 9223372036854775808 ≤ d * 2 ^ nz d ∧ d * 2 ^ nz d < W64 ∧ nz d < 64 := by
  have h1 := bitLen_64 d h
  have h2 := bitLen_pos d h (by omega)
  have h3 : d < 2 ^ Lib.bitLen d := (bitLen_le d _ h).1 (Nat.le_refl _)
  have h4 : ¬ Lib.bitLen d ≤ Lib.bitLen d - 1 := by omega
  rw [bitLen_le d _ h] at h4
  unfold nz
  obtain ⟨l, hl⟩ : ∃ l, Lib.bitLen d = l + 1 := ⟨Lib.bitLen d - 1, by omega⟩
  rw [hl] at h1 h3 h4 ⊢
  rw [Nat.add_sub_cancel] at h4
  have e1 : W64 = 2 ^ (l + 1) * 2 ^ (64 - (l + 1)) := by rw [W64_two, ← Nat.pow_add]; congr 1; omega
  have e2 : (9223372036854775808 : Nat) = 2 ^ l * 2 ^ (64 - (l + 1)) := by rw [← Nat.pow_add, show l + (64 - (l + 1)) = 63 by omega]
  have hp : 0 < 2 ^ (64 - (l + 1)) := Nat.pow_pos (by decide)
  refine ⟨?_, ?_, by omega⟩
  · rw [e2]; exact Nat.mul_le_mul_right _ (by omega)
  · rw [e1]; exact Nat.mul_lt_mul_of_pos_right h3 hp
theorem not_word (u : Nat) (h : u < 18446744073709551616) : bits .xor .u64 18446744073709551615 (u : Int) = ((18446744073709551615 - u : Nat) : Int) := by
  have h1 := u64_xor_nat 18446744073709551615 u (by omega) h
  rw [show ((18446744073709551615 : Nat) : Int) = 18446744073709551615 from rfl] at h1
  rw [h1]
  congr 1
  have e : 18446744073709551615 - u = 2 ^ 64 - (u + 1) := by
    have : (2 : Nat) ^ 64 = 18446744073709551616 := by decide
    omega
  rw [e, show (18446744073709551615 : Nat) = 2 ^ 64 - 1 by decide]
  apply Nat.eq_of_testBit_eq
  intro i
  rw [Nat.testBit_xor, Nat.testBit_two_pow_sub_one, Nat.testBit_two_pow_sub_succ (by omega)]
  by_cases hi : i < 64
  · simp [hi]
  · have h3 : u.testBit i = false := Nat.testBit_lt_two_pow (Nat.lt_of_lt_of_le (show u < 2 ^ 64 by omega) (Nat.pow_le_pow_right (by decide) (by omega)))
    simp [hi, h3]
/-- The reciprocal of a word. -/
def recOf (d : Nat) : Nat := ((18446744073709551615 - d * 2 ^ nz d) * W64 + 18446744073709551615) / (d * 2 ^ nz d)
set_option maxRecDepth 20000 in
set_option maxHeartbeats 200000 in
theorem recip_w (d : Nat) (h0 : 0 < d) (h : d < W64) (w : World) :
    Calls Tryz.prog 82 #[.int .u64 (d : Int)] w fun e w' => e = .returned (.int .u64 ((recOf d : Nat) : Int)) ∧ ∃ n, w' = w.drewN n := by
  obtain ⟨h1, h2, h3⟩ := nz_norm d h0 h
  have HN := Lib.hid (nlz_w d h w)
  rw [show 64 - Lib.bitLen d = nz d from rfl] at HN
  obtain ⟨s, hs⟩ : ∃ s, s = nz d := ⟨_, rfl⟩
  unfold recOf
  rw [← hs] at HN h1 h2 h3 ⊢
  obtain ⟨u, hu⟩ : ∃ u, u = d * 2 ^ s := ⟨_, rfl⟩
  rw [← hu] at h1 h2 ⊢
  have hwu : IntKind.u64.wrap ((d : Int) * 2 ^ s) = (u : Int) := by
    have e : (d : Int) * 2 ^ s = ((d * 2 ^ s : Nat) : Int) := by simp
    rw [e, ← hu]
    unfold W64 at h2
    exact wrap64_small _ (by omega) (by omega)
  have hmin : min s 64 = s := by omega
  obtain ⟨x, hx⟩ : ∃ x, x = 18446744073709551615 - u := ⟨_, rfl⟩
  have HD := Lib.hid (div_any x 18446744073709551615 u (.inr h1) (by omega) (by unfold W64; omega) h2 w)
  rw [show ((18446744073709551615 : Nat) : Int) = 18446744073709551615 from rfl] at HD
  rw [← hx]
  obtain ⟨q, hq⟩ : ∃ q, q = (x * W64 + 18446744073709551615) / u := ⟨_, rfl⟩
  rw [← hq] at HD ⊢
  have hnot : bits .xor .u64 (if IntKind.u64.signed = true then -1 else IntKind.u64.max) (u : Int) = (x : Int) := by
    rw [show (if IntKind.u64.signed = true then -1 else IntKind.u64.max) = 18446744073709551615 by decide]
    rw [hx]
    unfold W64 at h2
    exact not_word u h2
  clear hs hu hx hq h1 h
  go_enter Tryz.func82, Tryz.ntmps82
  go_wp2_with fail
  refine HN.out.mono ?_
  rintro e w' ⟨rfl, rfl⟩
  go_wp2_with fail
  refine HD.out.mono ?_
  rintro e w' ⟨rfl, n, rfl⟩
  go_wp2
  go_ret
  exact ⟨rfl, n, rfl⟩
theorem rec_facts (B d m : Nat) (hd : 0 < d) (hdB : d < B) (hm : m = ((B - 1 - d) * B + (B - 1)) / d) : (m + B) * d ≤ B * B ∧ B * B ≤ (m + B) * d + d := by
  have e : (B - 1 - d) * B + (B - 1) + d * B + 1 = B * B := by
    obtain ⟨k, hk⟩ : ∃ k, B = d + 1 + k := ⟨B - 1 - d, by omega⟩
    have e1 : B - 1 - d = k := by omega
    have e2 : B - 1 = d + k := by omega
    rw [e1, e2, hk]
    grind
  obtain ⟨X, hX⟩ : ∃ X, X = (B - 1 - d) * B + (B - 1) := ⟨_, rfl⟩
  rw [← hX] at e hm
  have h1 := Nat.div_add_mod X d
  have h2 := Nat.mod_lt X hd
  rw [← hm] at h1
  rw [Nat.add_mul]
  have e3 : B * d = d * B := Nat.mul_comm _ _
  have e4 : m * d = d * m := Nat.mul_comm _ _
  omega
theorem ww_sums (B m X1 X0 t1 t0 c : Nat) (hB : 0 < B) (h1 : t1 = m * X1 / B) (h0 : t0 = m * X1 % B) (hc : c = (t0 + X0) / B) : t1 + X1 + c = ((m + B) * X1 + X0) / B := by
  have h2 := Nat.div_add_mod (m * X1) B
  rw [← h1, ← h0] at h2
  have e : (m + B) * X1 + X0 = (t0 + X0) + B * (t1 + X1) := by rw [Nat.add_mul, ← h2]; grind
  rw [e, Nat.add_mul_div_left _ _ hB, ← hc]
  omega
theorem ww_left (B X1 X0 d t p1 p0 r0 r1 b : Nat) (hB : 0 < B) (hp1 : p1 = d * t / B) (hp0 : p0 = d * t % B) (hX0 : X0 < B) (hb : b = if X0 < p0 + 0 then 1 else 0) (hr0 : r0 = (X0 + B - p0 - 0) % B)
    (hlow : t * d ≤ X1 * B + X0) (hX1 : X1 < B) (hr1 : r1 = (X1 + B - p1 - b) % B) : X1 * B + X0 = t * d + (r1 * B + r0) ∧ r0 < B := by
  have h2 := Nat.div_add_mod (d * t) B
  rw [← hp1, ← hp0] at h2
  have hp0B : p0 < B := by rw [hp0]; exact Nat.mod_lt _ hB
  have e : t * d = d * t := Nat.mul_comm _ _
  rw [e] at hlow ⊢
  have hr0B : r0 < B := by rw [hr0]; exact Nat.mod_lt _ hB
  have hcase : r0 + p0 = X0 + b * B := by
    rw [hr0, hb]
    by_cases h : X0 < p0 + 0
    · rw [if_pos h, Nat.mod_eq_of_lt (by omega)]; omega
    · rw [if_neg h]
      have e2 : X0 + B - p0 - 0 = (X0 - p0) + B := by omega
      rw [e2, Nat.add_mod_right, Nat.mod_eq_of_lt (by omega)]
      omega
  have hle : p1 + b ≤ X1 := by
    rcases Nat.lt_or_ge X1 (p1 + b) with h | h
    · exfalso
      have h3 : (X1 + 1) * B ≤ (p1 + b) * B := Nat.mul_le_mul_right _ h
      rw [Nat.add_mul, Nat.add_mul] at h3
      have e3 : p1 * B = B * p1 := Nat.mul_comm _ _
      omega
    · exact h
  have hr1e : r1 = X1 - p1 - b := by
    rw [hr1]
    have e2 : X1 + B - p1 - b = (X1 - p1 - b) + B := by omega
    rw [e2, Nat.add_mod_right, Nat.mod_eq_of_lt (by omega)]
  refine ⟨?_, hr0B⟩
  obtain ⟨k, hk⟩ : ∃ k, X1 = p1 + b + k := ⟨X1 - p1 - b, by omega⟩
  have e3 : r1 = k := by omega
  rw [e3, ← h2, hk]
  have e4 : (p1 + b + k) * B = B * p1 + b * B + k * B := by grind
  rw [e4]
  omega
theorem shift_back (N y s q r : Nat) (h : N * 2 ^ s = q * (y * 2 ^ s) + r) (hr : r < y * 2 ^ s) : q = N / y ∧ r / 2 ^ s = N % y := by
  obtain ⟨h1, h2⟩ := div_of h hr
  have hp : 0 < 2 ^ s := Nat.pow_pos (by decide)
  rw [Nat.mul_div_mul_right _ _ hp] at h1
  rw [Nat.mul_mod_mul_right] at h2
  exact ⟨h1.symm, by rw [← h2, Nat.mul_div_cancel _ hp]⟩
theorem bits_mul_w (x y : Nat) (hx : x < W64) (hy : y < W64) (w : World) : Calls Tryz.prog 102 #[.int .u64 (x : Int), .int .u64 (y : Int)] w fun e w' => e = .returned (.tuple #[.int .u64 ((x * y / W64 : Nat) : Int), .int .u64 ((x * y % W64 : Nat) : Int)]) ∧ w = w' := by
  refine (Tryz.bits_Mul x y hx hy w).mono ?_
  rintro e w' ⟨he, hw⟩
  exact ⟨he, hw.symm⟩
/-- The walk behind the normalizing: X1, X0 the dividend, d the divisor, m its reciprocal. -/
theorem ww_plan (X1 X0 d m : Nat) (hd : 9223372036854775808 ≤ d) (hdW : d < W64) (hX1 : X1 < d) (hX0 : X0 < W64) (hm : m = ((18446744073709551615 - d) * W64 + 18446744073709551615) / d) :
    ∃ t1 t0 c t p1 p0 r0 b r1 : Nat, m < W64 ∧ t1 = m * X1 / W64 ∧ t0 = m * X1 % W64 ∧ c = (t0 + X0 + 0) / W64 ∧ c ≤ 1 ∧ t = (t1 + X1 + c) % W64 ∧ t < W64 ∧ p1 = d * t / W64 ∧ p0 = d * t % W64 ∧ p0 < W64 ∧ p1 < W64 ∧ r0 = (X0 + W64 - p0 - 0) % W64 ∧ b = bor X0 p0 0 ∧ b ≤ 1 ∧ r1 = (X1 + W64 - p1 - b) % W64 ∧
      X1 * W64 + X0 = t * d + (r1 * W64 + r0) ∧ r0 < W64 ∧ r1 * W64 + r0 < W64 + d ∧ r1 ≤ 1 := by
  have hWp := W64_pos
  have hm' : m = ((W64 - 1 - d) * W64 + (W64 - 1)) / d := by rw [hm]; rfl
  obtain ⟨hv1, hv2⟩ := rec_facts W64 d m (by omega) hdW hm'
  have hmW : m < W64 := by
    have h2W : W64 ≤ 2 * d := by unfold W64; omega
    rcases Nat.lt_or_ge m W64 with h | h
    · exact h
    · exfalso
      have h3 : (W64 + W64) * d ≤ (m + W64) * d := Nat.mul_le_mul_right _ (by omega)
      have h4 : W64 * W64 ≤ W64 * (2 * d) := Nat.mul_le_mul_left _ h2W
      have e5 : (W64 + W64) * d = W64 * (2 * d) := by grind
      have h6 : W64 * (2 * d) = W64 * W64 := by omega
      have h7 : 2 * d = W64 := Nat.eq_of_mul_eq_mul_left hWp h6
      have h8 : (W64 - 1 - d) * W64 + (W64 - 1) < d * W64 := by
        have e9 : W64 - 1 - d = d - 1 := by omega
        rw [e9]
        have h10 : (d - 1 + 1) * W64 ≤ d * W64 := Nat.mul_le_mul_right _ (by omega)
        rw [Nat.add_mul] at h10
        omega
      have h11 : m < W64 := by rw [hm', Nat.div_lt_iff_lt_mul (by omega), Nat.mul_comm W64 d]; exact h8
      omega
  obtain ⟨t1, ht1⟩ : ∃ t1, t1 = m * X1 / W64 := ⟨_, rfl⟩
  obtain ⟨t0, ht0⟩ : ∃ t0, t0 = m * X1 % W64 := ⟨_, rfl⟩
  obtain ⟨c, hc⟩ : ∃ c, c = (t0 + X0 + 0) / W64 := ⟨_, rfl⟩
  have ht0W : t0 < W64 := by rw [ht0]; exact Nat.mod_lt _ hWp
  have hc1 : c ≤ 1 := by
    have : c < 2 := by rw [hc]; exact (Nat.div_lt_iff_lt_mul hWp).2 (by omega)
    omega
  have hsum := ww_sums W64 m X1 X0 t1 t0 c hWp ht1 ht0 (by rw [hc, Nat.add_zero])
  obtain ⟨tt, htt⟩ : ∃ tt, tt = ((m + W64) * X1 + X0) / W64 := ⟨_, rfl⟩
  rw [← htt] at hsum
  have hdiv := Nat.div_add_mod ((m + W64) * X1 + X0) W64
  have hmod := Nat.mod_lt ((m + W64) * X1 + X0) hWp
  rw [← htt] at hdiv
  have hlow := ww_low W64 d (m + W64) X1 X0 tt hWp (by omega) hv1 (by rw [Nat.mul_comm tt]; omega)
  have hhigh := ww_high W64 d (m + W64) X1 X0 tt hWp hdW (by omega) hv2 hX1 hX0 (by rw [Nat.add_mul tt 1, Nat.mul_comm tt]; omega)
  have httW : tt < W64 := by
    rcases Nat.lt_or_ge tt W64 with h | h
    · exact h
    · exfalso
      have h3 : W64 * d ≤ tt * d := Nat.mul_le_mul_right _ h
      have h4 : (X1 + 1) * W64 ≤ d * W64 := Nat.mul_le_mul_right _ hX1
      rw [Nat.add_mul] at h4
      have e : W64 * d = d * W64 := Nat.mul_comm _ _
      omega
  have ht : tt = (t1 + X1 + c) % W64 := by rw [hsum, Nat.mod_eq_of_lt httW]
  obtain ⟨p1, hp1⟩ : ∃ p1, p1 = d * tt / W64 := ⟨_, rfl⟩
  obtain ⟨p0, hp0⟩ : ∃ p0, p0 = d * tt % W64 := ⟨_, rfl⟩
  have hp1W : p1 < W64 := by
    rw [hp1, Nat.div_lt_iff_lt_mul hWp]
    exact Nat.lt_of_le_of_lt (Nat.mul_le_mul_left d (Nat.le_of_lt httW)) (Nat.mul_lt_mul_of_pos_right hdW hWp)
  have hp0W : p0 < W64 := by rw [hp0]; exact Nat.mod_lt _ hWp
  obtain ⟨r0, hr0⟩ : ∃ r0, r0 = (X0 + W64 - p0 - 0) % W64 := ⟨_, rfl⟩
  obtain ⟨b, hb⟩ : ∃ b, b = bor X0 p0 0 := ⟨_, rfl⟩
  obtain ⟨r1, hr1⟩ : ∃ r1, r1 = (X1 + W64 - p1 - b) % W64 := ⟨_, rfl⟩
  have hb1 : b ≤ 1 := by rw [hb]; unfold bor; split <;> omega
  obtain ⟨he, hr0W⟩ := ww_left W64 X1 X0 d tt p1 p0 r0 r1 b hWp hp1 hp0 hX0 hb hr0 hlow (by omega) hr1
  have hrr : r1 * W64 + r0 < W64 + d := by omega
  have hr11 : r1 ≤ 1 := by
    rcases Nat.lt_or_ge r1 2 with h | h
    · omega
    · exfalso
      have h3 : 2 * W64 ≤ r1 * W64 := Nat.mul_le_mul_right _ h
      omega
  exact ⟨t1, t0, c, tt, p1, p0, r0, b, r1, hmW, ht1, ht0, hc, hc1, ht, httW, hp1, hp0, hp0W, hp1W, hr0, hb, hb1, hr1, he, hr0W, hrr, hr11⟩
end Go.Proofs.YtndeolcamgnmdaaGreatDoor
