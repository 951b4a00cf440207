/- Floats of 64 bits: what a word is worth, and which word is nearest: plain arithmetic over words, no program in sight. -/
import Derived.WalkKit
import Derived.Laws.FloatArith
namespace Go.Proofs.Ytndeolcamgnmdaa
open Ieee
def B52 : Nat := 4503599627370496
def infR : Nat := 9218868437227405312
def S63 : Nat := 9223372036854775808
theorem B52_two : B52 = 2 ^ 52 := by decide
theorem infR_eq : infR = 2047 * B52 := by decide
theorem S63_eq : S63 = 2048 * B52 := by decide
theorem B52_pos : 0 < B52 := by decide
theorem d_bin : double.binade = B52 := by decide
theorem d_inf : double.infRung = infR := by decide
theorem d_sgn : double.signWeight = S63 := by decide
theorem d_least : double.leastPlace = -1074 := by decide
def fmag (r : Nat) : Nat := if r < B52 then r else B52 + r % B52
def fexp (r : Nat) : Nat := if r < B52 then 0 else r / B52 - 1
/-- What a word of a finite float that is not below 0 is worth, in units of the least one. -/
def fval (r : Nat) : Nat := fmag r * 2 ^ fexp r
theorem read_pos {r : Nat} (h : r < infR) : double.read r = .number false (fmag r) (-1074 + (fexp r : Nat)) := by
  have h1 := infR_eq
  have h2 := S63_eq
  have hd : r / S63 = 0 := Nat.div_eq_of_lt (by omega)
  have hm : r % S63 = r := Nat.mod_eq_of_lt (by omega)
  unfold Format.read
  simp only [d_sgn, d_bin, d_inf, d_least, hd, hm]
  unfold fmag fexp
  by_cases hb : r < B52
  · simp [hb]
  · simp [hb, h]
theorem read_neg {r : Nat} (h : r < infR) : double.read (S63 + r) = .number true (fmag r) (-1074 + (fexp r : Nat)) := by
  have h1 := infR_eq
  have h2 := S63_eq
  have hb0 := B52_pos
  have hd : (S63 + r) / S63 = 1 := by
    rw [Nat.add_div_left _ (by omega), Nat.div_eq_of_lt (by omega)]
  have hm : (S63 + r) % S63 = r := by rw [Nat.add_mod_left, Nat.mod_eq_of_lt (by omega)]
  unfold Format.read
  simp only [d_sgn, d_bin, d_inf, d_least, hd, hm]
  unfold fmag fexp
  by_cases hb : r < B52
  · simp [hb]
  · simp [hb, h]
theorem fmag_lt (r : Nat) : fmag r < 2 * B52 := by
  unfold fmag
  have := Nat.mod_lt r B52_pos
  split <;> omega
theorem f_split (r : Nat) : (r < B52 ∧ fmag r = r ∧ fexp r = 0) ∨ (B52 ≤ r ∧ B52 ≤ fmag r ∧ fmag r < 2 * B52 ∧ r = fexp r * B52 + fmag r ∧ r / B52 = fexp r + 1 ∧ r % B52 = fmag r - B52) := by
  unfold fmag fexp
  have hb0 := B52_pos
  by_cases hb : r < B52
  · left; simp [hb]
  · right
    have h1 := Nat.div_add_mod r B52
    have h2 := Nat.mod_lt r hb0
    have h3 : 1 ≤ r / B52 := (Nat.le_div_iff_mul_le hb0).2 (by omega)
    obtain ⟨q, hq⟩ : ∃ q, r / B52 = q + 1 := ⟨r / B52 - 1, by omega⟩
    rw [if_neg hb, if_neg hb, hq, Nat.add_sub_cancel]
    rw [hq, Nat.mul_add, Nat.mul_comm] at h1
    refine ⟨by omega, by omega, by omega, by omega, rfl, by omega⟩
theorem f_succ_le (r s : Nat) (h : r < s) : fval r < fval s := by
  have hb0 := B52_pos
  rcases f_split r with ⟨h1, h2, h3⟩ | ⟨h1, h2, h3, h4, _, _⟩
  · rcases f_split s with ⟨k1, k2, k3⟩ | ⟨k1, k2, k3, k4, _, _⟩
    · unfold fval; rw [h2, h3, k2, k3]; simpa using h
    · unfold fval; rw [h2, h3]
      have : 1 ≤ 2 ^ fexp s := Nat.pow_pos (by omega)
      have := Nat.mul_le_mul k2 this
      omega
  · rcases f_split s with ⟨k1, k2, k3⟩ | ⟨k1, k2, k3, k4, _, _⟩
    · omega
    · unfold fval
      have hle : fexp r ≤ fexp s := by
        rcases Nat.lt_or_ge (fexp s) (fexp r) with hlt | hge
        · have := Nat.mul_le_mul_right B52 (show fexp s + 1 ≤ fexp r from hlt)
          rw [Nat.add_mul] at this
          omega
        · exact hge
      rcases Nat.lt_or_ge (fexp r) (fexp s) with hlt | hge
      · obtain ⟨d, hd⟩ : ∃ d, fexp s = fexp r + 1 + d := ⟨fexp s - fexp r - 1, by omega⟩
        have e1 : 2 ^ fexp s = 2 ^ fexp r * 2 * 2 ^ d := by rw [hd, Nat.pow_add, Nat.pow_succ]
        have e2 : 1 ≤ 2 ^ d := Nat.pow_pos (by omega)
        have e3 : 0 < 2 ^ fexp r := Nat.pow_pos (by omega)
        have e4 : 2 ^ fexp r * 2 ≤ 2 ^ fexp s := by
          rw [e1]; exact Nat.le_mul_of_pos_right _ e2
        have e5 : fmag r * 2 ^ fexp r < 2 * B52 * 2 ^ fexp r := Nat.mul_lt_mul_of_pos_right h3 e3
        have e6 : B52 * (2 ^ fexp r * 2) ≤ fmag s * 2 ^ fexp s := Nat.mul_le_mul k2 e4
        have e7 : B52 * (2 ^ fexp r * 2) = 2 * B52 * 2 ^ fexp r := by
          rw [← Nat.mul_assoc, Nat.mul_comm (B52 * _) 2, Nat.mul_assoc]
        omega
      · have he : fexp r = fexp s := by omega
        rw [he] at h4 ⊢
        exact Nat.mul_lt_mul_of_pos_right (by omega) (Nat.pow_pos (by omega))
theorem fval_pos {r : Nat} (h : 0 < r) : 0 < fval r := by
  have := f_succ_le 0 r h
  omega
theorem fval_zero : fval 0 = 0 := by decide
theorem fval_le {r s : Nat} (h : r ≤ s) : fval r ≤ fval s := by
  rcases Nat.lt_or_ge r s with h1 | h1
  · exact Nat.le_of_lt (f_succ_le r s h1)
  · have : r = s := by omega
    rw [this]; exact Nat.le_refl _
theorem fval_lt {r s : Nat} : fval r < fval s ↔ r < s := by
  constructor
  · intro h
    rcases Nat.lt_or_ge r s with h1 | h1
    · exact h1
    · have := fval_le h1; omega
  · exact f_succ_le r s
/-! Rounding. -/
def cutG (n g : Nat) : Nat := n / 2 ^ g + (2 ^ g < 2 * (n % 2 ^ g) || (2 ^ g == 2 * (n % 2 ^ g) && n / 2 ^ g % 2 == 1)).toNat
theorem cut_eq (neg : Bool) (n d : Nat) : Toward.even.cut neg n d = cutG n (min d (n.log2 + 2)) := by
  unfold Toward.cut cutG
  simp only [Nat.shiftLeft_eq, Nat.one_mul]
theorem cutG_scale (n g u : Nat) : cutG (n * 2 ^ u) (g + u) = cutG n g := by
  unfold cutG
  have hu : 0 < 2 ^ u := Nat.pow_pos (by omega)
  rw [Nat.pow_add, Nat.mul_div_mul_right _ _ hu, Nat.mul_mod_mul_right]
  have e1 : (2 ^ g * 2 ^ u < 2 * (n % 2 ^ g * 2 ^ u)) ↔ (2 ^ g < 2 * (n % 2 ^ g)) := by
    rw [← Nat.mul_assoc]
    exact Nat.mul_lt_mul_right hu
  have e2 : (2 ^ g * 2 ^ u == 2 * (n % 2 ^ g * 2 ^ u)) = (2 ^ g == 2 * (n % 2 ^ g)) := by
    rw [← Nat.mul_assoc, Bool.eq_iff_iff, beq_iff_eq, beq_iff_eq]
    exact Nat.mul_right_cancel_iff hu
  rw [e2]
  simp only [e1]
theorem cutG_zero (n : Nat) : cutG n 0 = n := by
  unfold cutG
  simp [Nat.mod_one]
theorem log2_mul_pow (n u : Nat) (h : n ≠ 0) : (n * 2 ^ u).log2 = n.log2 + u := by
  have h1 := Nat.log2_self_le h
  have h2 : n < 2 ^ (n.log2 + 1) := Nat.lt_log2_self
  refine (Nat.log2_eq_iff (Nat.mul_ne_zero h (Nat.ne_of_gt (Nat.pow_pos (by omega))))).2 ⟨?_, ?_⟩
  · rw [Nat.pow_add]; exact Nat.mul_le_mul_right _ h1
  · rw [show n.log2 + u + 1 = n.log2 + 1 + u by omega, Nat.pow_add]
    exact Nat.mul_lt_mul_of_pos_right h2 (Nat.pow_pos (by omega))
def rungOf (mag : Nat) (place : Int) : Nat :=
  min ((max (place + mag.log2 - 52) (-1074) + 1074).toNat * B52 + Toward.even.cut false (mag <<< (place - max (place + mag.log2 - 52) (-1074)).toNat) (max (place + mag.log2 - 52) (-1074) - place).toNat) infR
theorem nearest_eq (neg : Bool) (mag : Nat) (place : Int) (h : mag ≠ 0) : double.nearest neg mag place = double.word neg (rungOf mag place) := by
  unfold Format.nearest rungOf
  rw [if_neg h]
  simp only [d_bin, d_inf, d_least]
  have e : (double.fractionBits : Int) = 52 := by decide
  rw [e]
  simp only [cut_eq]
  congr 3
theorem rung_scale (m u : Nat) (place : Int) (h : m ≠ 0) : rungOf (m * 2 ^ u) place = rungOf m (place + u) := by
  unfold rungOf
  rw [log2_mul_pow m u h]
  have e1 : place + ((m.log2 + u : Nat) : Int) - 52 = place + u + m.log2 - 52 := by omega
  rw [e1]
  generalize hL : max (place + u + m.log2 - 52) (-1074) = L
  congr 2
  rw [cut_eq, cut_eq]
  simp only [Nat.shiftLeft_eq]
  rcases Int.lt_or_le place L with hlt | hge
  · have z1 : (place - L).toNat = 0 := by omega
    rw [z1, Nat.pow_zero, Nat.mul_one, log2_mul_pow m u h]
    rcases Int.lt_or_le (place + u) L with h2 | h2
    · have z2 : (place + u - L).toNat = 0 := by omega
      rw [z2, Nat.pow_zero, Nat.mul_one]
      have z3 : min (L - place).toNat (m.log2 + u + 2) = min (L - (place + u)).toNat (m.log2 + 2) + u := by omega
      rw [z3, cutG_scale]
    · have z2 : (L - (place + u)).toNat = 0 := by omega
      have z3 : min (L - place).toNat (m.log2 + u + 2) = 0 + (L - place).toNat := by omega
      rw [z2, z3, Nat.zero_min, cutG_zero]
      have z4 : m * 2 ^ u = m * 2 ^ (place + u - L).toNat * 2 ^ (L - place).toNat := by
        rw [Nat.mul_assoc, ← Nat.pow_add]
        congr 2
        omega
      rw [z4, cutG_scale, cutG_zero]
  · have z1 : (L - place).toNat = 0 := by omega
    have z2 : (L - (place + u)).toNat = 0 := by omega
    rw [z1, z2, Nat.zero_min, Nat.zero_min, cutG_zero, cutG_zero, Nat.mul_assoc, ← Nat.pow_add]
    congr 2
    omega
theorem log2_B {m : Nat} (h1 : B52 ≤ m) (h2 : m < 2 * B52) : m.log2 = 52 := by
  have hb := B52_two
  have hm : m ≠ 0 := by have := B52_pos; omega
  exact (Nat.log2_eq_iff hm).2 ⟨by omega, by rw [Nat.pow_succ]; omega⟩
theorem log2_small {m : Nat} (h2 : m < B52) : m.log2 ≤ 52 := by
  by_cases h0 : m = 0
  · subst h0; decide
  · have := (Nat.log2_lt h0).2 (show m < 2 ^ 53 by rw [Nat.pow_succ]; have := B52_two; omega)
    omega
/-- The word of what a word is worth is that word. -/
theorem rung_self {r : Nat} (h0 : 0 < r) (h : r < infR) : rungOf (fmag r) (-1074 + (fexp r : Nat)) = r := by
  rcases f_split r with ⟨h1, h2, h3⟩ | ⟨h1, h2, h3, h4, _, _⟩
  · rw [h2, h3]
    have hl := log2_small h1
    unfold rungOf
    have e : max (-1074 + ((0 : Nat) : Int) + (r.log2 : Int) - 52) (-1074) = -1074 := by omega
    rw [e, cut_eq]
    simp [Nat.shiftLeft_eq, cutG_zero]
    omega
  · have hl := log2_B h2 h3
    unfold rungOf
    rw [hl]
    have e : max (-1074 + (fexp r : Int) + ((52 : Nat) : Int) - 52) (-1074) = -1074 + (fexp r : Int) := by omega
    rw [e, cut_eq]
    have e2 : (-1074 + (fexp r : Int) + 1074).toNat = fexp r := by omega
    have e3 : (-1074 + (fexp r : Int) - (-1074 + (fexp r : Int))).toNat = 0 := by omega
    rw [e2, e3, Nat.shiftLeft_eq, Nat.pow_zero, Nat.mul_one, Nat.zero_min, cutG_zero, ← h4]
    exact Nat.min_eq_left (Nat.le_of_lt h)
theorem rung_val {r : Nat} (h0 : 0 < r) (h : r < infR) : rungOf (fval r) (-1074) = r := by
  have hm : fmag r ≠ 0 := by
    rcases f_split r with ⟨h1, h2, h3⟩ | ⟨h1, h2, h3, h4, _, _⟩
    · omega
    · have := B52_pos; omega
  unfold fval
  rw [rung_scale _ _ _ hm]
  exact rung_self h0 h
theorem cutG_le {n g m : Nat} (h : n ≤ m * 2 ^ g) : cutG n g ≤ m := by
  have hp : 0 < 2 ^ g := Nat.pow_pos (by omega)
  have h1 : n / 2 ^ g ≤ m := Nat.div_le_of_le_mul (by rw [Nat.mul_comm]; exact h)
  unfold cutG
  rcases Nat.lt_or_ge (n / 2 ^ g) m with h2 | h2
  · have := Bool.toNat_le (2 ^ g < 2 * (n % 2 ^ g) || (2 ^ g == 2 * (n % 2 ^ g) && n / 2 ^ g % 2 == 1))
    omega
  · have e : n / 2 ^ g = m := by omega
    have e2 : n % 2 ^ g = 0 := by
      have := Nat.div_add_mod n (2 ^ g)
      rw [e, Nat.mul_comm] at this
      omega
    rw [e2, e]
    have hz : (decide (2 ^ g < 2 * 0) || (2 ^ g == 2 * 0 && m % 2 == 1)) = false := by
      have : ¬ (2 ^ g = 2 * 0) := by omega
      simp
    rw [hz]
    exact Nat.le_refl _
/-- Rounding keeps below a word. -/
theorem rung_le {N r : Nat} (h0 : 0 < N) (hr : r < infR) (h : N ≤ fval r) : rungOf N (-1074) ≤ r := by
  have hb0 := B52_pos
  have hb2 := B52_two
  have hN : N ≠ 0 := by omega
  have hl1 : 2 ^ N.log2 ≤ N := Nat.log2_self_le hN
  have hl2 : N < 2 ^ (N.log2 + 1) := Nat.lt_log2_self
  refine Nat.le_trans (Nat.min_le_left _ _) ?_
  rcases Nat.lt_or_ge 52 N.log2 with hL | hL
  · obtain ⟨L, hLd⟩ : ∃ L, N.log2 = 52 + L := ⟨N.log2 - 52, by omega⟩
    have e : max (-1074 + (N.log2 : Int) - 52) (-1074) = -1074 + (L : Int) := by omega
    have e1 : (-1074 + (L : Int) + 1074).toNat = L := by omega
    have e2 : (-1074 - (-1074 + (L : Int))).toNat = 0 := by omega
    have e3 : (-1074 + (L : Int) - -1074).toNat = L := by omega
    rw [e, e1, e2, e3, cut_eq, Nat.shiftLeft_eq, Nat.pow_zero, Nat.mul_one, show min L (N.log2 + 2) = L by omega]
    have hk : cutG N L ≤ 2 * B52 := cutG_le (by
      rw [hb2, show 2 * 2 ^ 52 = 2 ^ 53 by decide, ← Nat.pow_add]
      rw [hLd] at hl2
      have : 52 + L + 1 = 53 + L := by omega
      rw [this] at hl2
      exact Nat.le_of_lt hl2)
    rcases f_split r with ⟨h1, h2, h3⟩ | ⟨h1, h2, h3, h4, _, _⟩
    · exfalso
      have : fval r = r := by unfold fval; rw [h2, h3]; simp
      have h5 : 2 ^ 53 ≤ 2 ^ N.log2 := Nat.pow_le_pow_right (by omega) (by omega)
      have h6 : (2 : Nat) ^ 53 = 2 * B52 := by rw [hb2]
      omega
    · have hle : L ≤ fexp r := by
        have h5 : 2 ^ (52 + L) < 2 ^ (53 + fexp r) := by
          rw [← hLd]
          refine Nat.lt_of_le_of_lt (Nat.le_trans hl1 h) ?_
          unfold fval
          rw [Nat.pow_add, show (2 : Nat) ^ 53 = 2 * B52 by rw [hb2]]
          exact Nat.mul_lt_mul_of_pos_right h3 (Nat.pow_pos (by omega))
        have := (Nat.pow_lt_pow_iff_right (a := 2) (by omega)).1 h5
        omega
      rcases Nat.lt_or_ge L (fexp r) with hlt | hge
      · have := Nat.mul_le_mul_right B52 (show L + 1 ≤ fexp r from hlt)
        rw [Nat.add_mul] at this
        omega
      · have he : fexp r = L := by omega
        have hk2 : cutG N L ≤ fmag r := cutG_le (by unfold fval at h; rw [he] at h; exact h)
        rw [he] at h4
        omega
  · have e : max (-1074 + (N.log2 : Int) - 52) (-1074) = -1074 := by omega
    rw [e, cut_eq]
    simp [Nat.shiftLeft_eq, cutG_zero]
    have hN53 : N < 2 * B52 := by
      have h5 : 2 ^ (N.log2 + 1) ≤ 2 ^ 53 := Nat.pow_le_pow_right (by omega) (by omega)
      have h6 : (2 : Nat) ^ 53 = 2 * B52 := by rw [hb2]
      omega
    rcases f_split r with ⟨h1, h2, h3⟩ | ⟨h1, h2, h3, h4, _, _⟩
    · have : fval r = r := by unfold fval; rw [h2, h3]; simp
      omega
    · by_cases he : fexp r = 0
      · have : fval r = fmag r := by unfold fval; rw [he]; simp
        rw [he] at h4
        omega
      · have := Nat.mul_le_mul_right B52 (show 1 ≤ fexp r by omega)
        omega
end Go.Proofs.Ytndeolcamgnmdaa
