/- Digits, bits and lengths of numbers that are given as bytes: plain arithmetic, no program in sight. -/
import Derived.Test.YtndeolcamgnmdaaBigPlain
namespace Go.Proofs.Ytndeolcamgnmdaa
/-- The i-th byte from the lowest one on. -/
def dig (n i : Nat) : Nat := n / 256 ^ i % 256
def bitAt (n i : Nat) : Nat := n / 2 ^ i % 2
theorem natOf_mid (a r : List Nat) (x : Nat) (hx : x < 256) (hr : ∀ y ∈ r, y < 256) : dig (natOf (a ++ x :: r)) r.length = x := by
  unfold dig
  rw [natOf_append]
  have h1 := natOf_lt r hr
  have h2 : natOf (x :: r) = x * 256 ^ r.length + natOf r := by simp [natOf]
  have h3 : (natOf a * 256 ^ (x :: r).length + natOf (x :: r)) = natOf r + 256 ^ r.length * (natOf a * 256 + x) := by
    rw [h2, List.length_cons, Nat.pow_succ, Nat.mul_add]
    rw [Nat.mul_comm (256 ^ r.length) (natOf a * 256), Nat.mul_comm (256 ^ r.length) 256, ← Nat.mul_assoc, Nat.mul_comm (256 ^ r.length) x]
    omega
  rw [h3, Nat.add_mul_div_left _ _ (Nat.pow_pos (by omega)), Nat.div_eq_of_lt h1]
  omega
theorem dig_at (l : List Nat) (i : Nat) (hb : ∀ x ∈ l, x < 256) (k : Nat) (hk : k < l.length) (hki : k + i + 1 = l.length) : dig (natOf l) i = l[k]'hk := by
  have e : l = l.take k ++ (l[k]'hk :: l.drop (k + 1)) := by
    rw [← List.drop_eq_getElem_cons hk, List.take_append_drop]
  have h := natOf_mid (l.take k) (l.drop (k + 1)) (l[k]'hk) (hb _ (List.getElem_mem hk)) (fun y hy => hb y (List.mem_of_mem_drop hy))
  rw [← e] at h
  rw [List.length_drop] at h
  have : l.length - (k + 1) = i := by omega
  rw [this] at h
  exact h
theorem dig_over (l : List Nat) (i : Nat) (hb : ∀ x ∈ l, x < 256) (h : l.length ≤ i) : dig (natOf l) i = 0 := by
  unfold dig
  have h1 := natOf_lt l hb
  have h2 : 256 ^ l.length ≤ 256 ^ i := Nat.pow_le_pow_right (by omega) h
  rw [Nat.div_eq_of_lt (by omega)]
theorem dig_lt (n i : Nat) : dig n i < 256 := by unfold dig; omega
theorem bit_dig (n i : Nat) : dig n (i / 8) / 2 ^ (i % 8) % 2 = bitAt n i := by
  unfold dig bitAt
  have e : (256 : Nat) ^ (i / 8) = 2 ^ (8 * (i / 8)) := by rw [Nat.pow_mul]
  rw [e]
  have h1 : 2 ^ i = 2 ^ (8 * (i / 8)) * 2 ^ (i % 8) := by rw [← Nat.pow_add]; congr 1; omega
  rw [h1, ← Nat.div_div_eq_div_mul]
  generalize n / 2 ^ (8 * (i / 8)) = m
  have h2 : i % 8 < 8 := Nat.mod_lt _ (by omega)
  generalize i % 8 = k at h2
  have hc : k = 0 ∨ k = 1 ∨ k = 2 ∨ k = 3 ∨ k = 4 ∨ k = 5 ∨ k = 6 ∨ k = 7 := by omega
  rcases hc with rfl | rfl | rfl | rfl | rfl | rfl | rfl | rfl <;> simp <;> omega
/-- k is how many bits n has. -/
def IsLen (n k : Nat) : Prop := n < 2 ^ k ∧ (k = 0 ∨ 2 ^ (k - 1) ≤ n)
theorem bitAt_top {n i : Nat} (h : n < 2 ^ (i + 1)) (hb : bitAt n i = 1) : IsLen n (i + 1) := by
  refine ⟨h, .inr ?_⟩
  rw [Nat.add_sub_cancel]
  unfold bitAt at hb
  rcases Nat.lt_or_ge n (2 ^ i) with h1 | h1
  · rw [Nat.div_eq_of_lt h1] at hb; simp at hb
  · exact h1
theorem bitAt_no {n i : Nat} (h : n < 2 ^ (i + 1)) (hb : bitAt n i ≠ 1) : n < 2 ^ i := by
  unfold bitAt at hb
  rcases Nat.lt_or_ge n (2 ^ i) with h1 | h1
  · exact h1
  · exfalso
    apply hb
    have h2 : n / 2 ^ i < 2 := by
      rw [Nat.div_lt_iff_lt_mul (Nat.pow_pos (by omega))]
      rw [Nat.pow_succ] at h; omega
    have h3 : 1 ≤ n / 2 ^ i := by
      rw [Nat.le_div_iff_mul_le (Nat.pow_pos (by omega))]; omega
    omega
theorem isLen_le {n k m : Nat} (h : IsLen n k) : k ≤ m ↔ n < 2 ^ m := by
  constructor
  · intro hk
    exact Nat.lt_of_lt_of_le h.1 (Nat.pow_le_pow_right (by omega) hk)
  · intro hn
    rcases h.2 with h0 | h0
    · omega
    · have := (Nat.pow_lt_pow_iff_right (a := 2) (by omega)).1 (Nat.lt_of_le_of_lt h0 hn)
      omega
theorem natOf_pow2 (l : List Nat) (hb : ∀ x ∈ l, x < 256) : natOf l < 2 ^ (8 * l.length) := by
  have := natOf_lt l hb
  rwa [Nat.pow_mul]
/-- low's step. -/
theorem low_step (n i k : Nat) : n / 256 ^ (i + 1) % 256 ^ k * 256 + dig n i = n / 256 ^ i % 256 ^ (k + 1) := by
  unfold dig
  rw [Nat.pow_succ 256 i, ← Nat.div_div_eq_div_mul]
  generalize n / 256 ^ i = m
  rw [Nat.pow_succ, Nat.mul_comm (256 ^ k) 256, Nat.mod_mul, Nat.mul_comm 256 (m / 256 % 256 ^ k)]
  omega
/-- Equal up to a byte: that byte decides. -/
theorem natOf_less (p a b : List Nat) (x y : Nat) (hl : a.length = b.length) (ha : ∀ z ∈ a, z < 256) (hxy : x < y) : natOf (p ++ x :: a) < natOf (p ++ y :: b) := by
  rw [natOf_append, natOf_append]
  have h1 := natOf_lt a ha
  have h2 : natOf (x :: a) = x * 256 ^ a.length + natOf a := by simp [natOf]
  have h3 : natOf (y :: b) = y * 256 ^ b.length + natOf b := by simp [natOf]
  have h4 : (x + 1) * 256 ^ a.length ≤ y * 256 ^ a.length := Nat.mul_le_mul_right _ hxy
  rw [Nat.add_mul] at h4
  rw [h2, h3, List.length_cons, List.length_cons, hl] at *
  omega
theorem natOf_at {xs ys : List Nat} (hx : ∀ z ∈ xs, z < 256) (hl : xs.length = ys.length) (i : Nat) (h1 : i < xs.length) (h2 : i < ys.length) (hall : ∀ j (hj : j < xs.length) (hk : j < ys.length), j < i → xs[j]'hj = ys[j]'hk) (hlt : xs[i]'h1 < ys[i]'h2) : natOf xs < natOf ys := by
  have e1 : xs = xs.take i ++ (xs[i]'h1 :: xs.drop (i + 1)) := by rw [← List.drop_eq_getElem_cons h1, List.take_append_drop]
  have e2 : ys = xs.take i ++ (ys[i]'h2 :: ys.drop (i + 1)) := by
    have : xs.take i = ys.take i := by
      apply List.ext_getElem
      · simp; omega
      · intro j hj hk
        simp at hj hk ⊢
        exact hall j (by omega) (by omega) (by omega)
    rw [this, ← List.drop_eq_getElem_cons h2, List.take_append_drop]
  rw [e1, e2]
  have := natOf_less (xs.take i) (xs.drop (i + 1)) (ys.drop (i + 1)) _ _ (by simp; omega) (fun z hz => hx z (List.mem_of_mem_drop hz)) hlt
  simpa using this
theorem natOf_shorter {xs ys : List Nat} (hx : ∀ z ∈ xs, z < 256) (hy : ys.head? ≠ some 0) (hl : xs.length < ys.length) : natOf xs < natOf ys := by
  cases ys with
  | nil => simp at hl
  | cons y r =>
    have hy0 : y ≠ 0 := fun e => hy (by simp [e])
    have h1 := natOf_pos y r hy0
    have h2 := natOf_lt xs hx
    have h3 : 256 ^ xs.length ≤ 256 ^ r.length := Nat.pow_le_pow_right (by omega) (by simp at hl; omega)
    omega
end Go.Proofs.Ytndeolcamgnmdaa
