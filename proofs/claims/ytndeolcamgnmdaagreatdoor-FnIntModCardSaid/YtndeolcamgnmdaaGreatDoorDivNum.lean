/- Division of words by words: plain arithmetic (by halves; by a reciprocal; the digits of a long division). -/
import Derived.WalkKit
set_option linter.unusedVariables false
set_option linter.unusedSimpArgs false
set_option linter.unnecessarySimpa false
namespace Go.Proofs.YtndeolcamgnmdaaGreatDoor
/-- One half of a division of two words by one: what the guess is worth. -/
theorem half_ge (b y1 y0 u u0 q r : Nat) (hu : u < y1 * b + y0) (hu0 : u0 < b) (hq : u = q * y1 + r)
    (hc : b ≤ q ∨ b * r + u0 < q * y0) : (u * b + u0) / (y1 * b + y0) < q := by
  have hy : 0 < y1 * b + y0 := by omega
  rw [Nat.div_lt_iff_lt_mul hy]
  rcases hc with hc | hc
  · have h1 : (u + 1) * b ≤ (y1 * b + y0) * b := Nat.mul_le_mul_right _ hu
    have h2 : b * (y1 * b + y0) ≤ q * (y1 * b + y0) := Nat.mul_le_mul_right _ hc
    grind
  · subst hq
    grind
theorem half_le (b y1 y0 u u0 q r : Nat) (hy : 0 < y1 * b + y0) (hq : u = q * y1 + r) (hc : q * y0 ≤ b * r + u0) : q ≤ (u * b + u0) / (y1 * b + y0) := by
  rw [Nat.le_div_iff_mul_le hy]
  subst hq
  grind
theorem half_brk (b y1 y0 u u0 q r : Nat) (hy : 0 < y1 * b + y0) (hy0 : y0 < b) (hq : u = q * y1 + r) (hb : q ≤ b) (hr : b ≤ r) : q ≤ (u * b + u0) / (y1 * b + y0) := by
  refine half_le b y1 y0 u u0 q r hy hq ?_
  have h1 : q * y0 ≤ b * b := Nat.mul_le_mul hb (by omega)
  have h2 : b * b ≤ b * r := Nat.mul_le_mul_left _ hr
  omega
theorem half_max (b y1 y0 u : Nat) (hu : u < y1 * b + y0) (hy0 : y0 < b) (hy1 : b ≤ 2 * y1) : u / y1 ≤ b + 1 := by
  have h0 : 0 < y1 := by omega
  have : u / y1 < b + 2 := by
    rw [Nat.div_lt_iff_lt_mul h0]
    grind
  omega
theorem div_of {t q y r : Nat} (h : t = q * y + r) (hr : r < y) : t / y = q ∧ t % y = r := by
  have hy : 0 < y := by omega
  subst h
  constructor
  · rw [Nat.add_comm, Nat.add_mul_div_right _ _ hy, Nat.div_eq_of_lt hr, Nat.zero_add]
  · rw [Nat.add_comm, Nat.add_mul_mod_self_right, Nat.mod_eq_of_lt hr]
theorem div_join (b y hi u1 u0 q1 r1 q0 r0 : Nat) (h1 : hi * b + u1 = q1 * y + r1) (h0 : r1 * b + u0 = q0 * y + r0) (hr : r0 < y) :
    (hi * (b * b) + (u1 * b + u0)) / y = q1 * b + q0 ∧ (hi * (b * b) + (u1 * b + u0)) % y = r0 :=
  div_of (by grind) hr
theorem ww_low (B d v x1 x0 t : Nat) (hB : 0 < B) (hd : d ≤ B) (hv1 : v * d ≤ B * B) (ht : t * B ≤ v * x1 + x0) : t * d ≤ x1 * B + x0 := by
  refine Nat.le_of_mul_le_mul_left ?_ hB
  have h1 : t * B * d ≤ (v * x1 + x0) * d := Nat.mul_le_mul_right _ ht
  have h2 : v * d * x1 ≤ B * B * x1 := Nat.mul_le_mul_right _ hv1
  have h3 : x0 * d ≤ x0 * B := Nat.mul_le_mul_left _ hd
  grind
theorem ww_high (B d v x1 x0 t : Nat) (hB : 0 < B) (hd : d < B) (hd0 : 0 < d) (hv2 : B * B ≤ v * d + d) (hx1 : x1 < d) (hx0 : x0 < B) (ht : v * x1 + x0 < (t + 1) * B) : x1 * B + x0 < t * d + (B + d) := by
  obtain ⟨e, he⟩ : ∃ e, B = d + e := ⟨B - d, by omega⟩
  have h1 : (v * x1 + x0 + 1) * d ≤ (t + 1) * B * d := Nat.mul_le_mul_right _ ht
  have h2 : B * B * x1 ≤ (v * d + d) * x1 := Nat.mul_le_mul_right _ hv2
  have h4 : d * (x1 + 1) ≤ d * d := Nat.mul_le_mul_left _ hx1
  have h5 : (x0 + 1) * e ≤ B * e := Nat.mul_le_mul_right _ hx0
  have h6 : B * (x1 * B + x0) < B * (t * d + (B + d)) := by
    have e1 : B * (x1 * B + x0) = B * B * x1 + x0 * d + x0 * e := by subst he; grind
    have e2 : B * (t * d + (B + d)) = (t + 1) * B * d + B * d + B * e := by subst he; grind
    have e3 : B * d = d * d + d * e := by subst he; grind
    rw [e1, e2, e3]
    have e4 : (v * x1 + x0 + 1) * d = v * d * x1 + x0 * d + d := by grind
    have e5 : (v * d + d) * x1 = v * d * x1 + d * x1 := by grind
    have e6 : (x0 + 1) * e = x0 * e + e := by grind
    have e7 : d * (x1 + 1) = d * x1 + d := by grind
    have h7 : 0 ≤ d * e := Nat.zero_le _
    omega
  exact Nat.lt_of_mul_lt_mul_left h6
/-- Knuth's guess from the top words is no less than the digit. -/
theorem kn_ge (U U3 V V2 P vr ur q : Nat) (hV : V = V2 * P + vr) (hU : U = U3 * P + ur) (hur : ur < P) (hq : q * V ≤ U) (hV2 : 0 < V2) : q ≤ U3 / V2 := by
  rw [Nat.le_div_iff_mul_le hV2]
  have h1 : q * V2 * P < (U3 + 1) * P := by subst hV hU; grind
  have := Nat.lt_of_mul_lt_mul_right h1
  omega
theorem kn_le (U U3 V V2 P vr ur q3 : Nat) (hV : V = V2 * P + vr) (hvr : vr < P) (hU : U = U3 * P + ur) (hq3 : q3 * V2 ≤ U3) (h1 : q3 ≤ V2 + 1) : (q3 - 1) * V ≤ U := by
  rcases Nat.eq_zero_or_pos q3 with h0 | h0
  · subst h0; simp
  obtain ⟨k, hk⟩ : ∃ k, q3 = k + 1 := ⟨q3 - 1, by omega⟩
  subst hk
  have h2 : (k * (V2 + 1)) * P ≤ U3 * P := Nat.mul_le_mul_right _ (by grind)
  have h3 : k * (vr + 1) ≤ k * P := Nat.mul_le_mul_left _ hvr
  have e : (k + 1 - 1) = k := by omega
  rw [e]
  subst hV hU
  grind
theorem kn_top (B U V v1 w P : Nat) (hV : V = v1 * (B * P) + w) (hw : w < B * P) (hU : v1 * B * (B * P) ≤ U) (h1 : B ≤ 2 * v1 + 2) (hB : 2 ≤ B): (B - 2) * V ≤ U := by
  obtain ⟨k, hk⟩ : ∃ k, B = k + 2 := ⟨B - 2, by omega⟩
  have e : B - 2 = k := by omega
  rw [e]
  generalize B * P = Q at *
  have h2 : k * (w + 1) ≤ k * Q := Nat.mul_le_mul_left _ hw
  have h3 : k * Q ≤ 2 * v1 * Q := Nat.mul_le_mul_right _ (by omega)
  subst hV hk
  grind
/-- One digit of a long division: the guess is the digit, or one above it. -/
theorem kn_digit (U V q g : Nat) (hV : 0 < V) (h1 : U / V ≤ g) (h2 : (g - 1) * V ≤ U) (hq : q = U / V) : (g * V ≤ U ∧ g = q) ∨ (U < g * V ∧ g = q + 1) := by
  subst hq
  have h3 : g - 1 ≤ U / V := (Nat.le_div_iff_mul_le hV).2 h2
  rcases Nat.lt_or_ge U (g * V) with h4 | h4
  · right
    have h5 : U / V < g := (Nat.div_lt_iff_lt_mul hV).2 h4
    exact ⟨h4, by omega⟩
  · left
    have h5 : g ≤ U / V := (Nat.le_div_iff_mul_le hV).2 h4
    exact ⟨h4, by omega⟩
end Go.Proofs.YtndeolcamgnmdaaGreatDoor
