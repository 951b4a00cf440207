/- Numbers as bytes, the highest first, and as words of 64 bits, the lowest first: plain arithmetic, no program in sight. -/
import Derived.WalkKit
import Derived.Lib.Hide
set_option linter.unusedSimpArgs false
set_option linter.unusedVariables false
namespace Go.Proofs.YteibkaonofkcbaaGreat
open Go.RowKit
/-- 2 to the 64-th, by a name (the number itself is kept out of the walks). -/
def W64 : Nat := 18446744073709551616
theorem W64_pos : 0 < W64 := by unfold W64; omega
theorem W64_eq : W64 = 256 ^ 8 := by unfold W64; decide
/-- The number of bytes, the highest first. -/
def natOf : List Nat → Nat
  | [] => 0
  | b :: r => b * 256 ^ r.length + natOf r
theorem natOf_nil : natOf [] = 0 := rfl
theorem natOf_append (a b : List Nat) : natOf (a ++ b) = natOf a * 256 ^ b.length + natOf b := by
  induction a with
  | nil => simp [natOf]
  | cons x r ih =>
    simp only [List.cons_append, natOf, ih, List.length_append, Nat.pow_add]
    rw [Nat.add_mul, Nat.mul_assoc, Nat.add_assoc]
theorem natOf_lt (l : List Nat) (h : ∀ x ∈ l, x < 256) : natOf l < 256 ^ l.length := by
  induction l with
  | nil => simp [natOf]
  | cons x r ih =>
    have h1 := ih (fun y hy => h y (List.mem_cons_of_mem _ hy))
    have h2 : x < 256 := h x (List.mem_cons_self ..)
    simp only [natOf, List.length_cons, Nat.pow_succ]
    have h3 : x * 256 ^ r.length + 256 ^ r.length ≤ 256 * 256 ^ r.length := by
      rw [← Nat.succ_mul]
      exact Nat.mul_le_mul_right _ h2
    rw [Nat.mul_comm (256 ^ r.length) 256]
    omega
theorem natOf_pos (x : Nat) (r : List Nat) (h : x ≠ 0) : 256 ^ r.length ≤ natOf (x :: r) := by
  simp only [natOf]
  have : 1 * 256 ^ r.length ≤ x * 256 ^ r.length := Nat.mul_le_mul_right _ (by omega)
  omega
theorem natOf_zero_cons (r : List Nat) : natOf (0 :: r) = natOf r := by simp [natOf]
/-- What stands behind the leading zeros. -/
def strip : List Nat → List Nat
  | [] => []
  | x :: r => if x = 0 then strip r else x :: r
theorem strip_drop : ∀ (l : List Nat) (k : Nat), k ≤ l.length → (∀ j (h : j < l.length), j < k → l[j]'h = 0) → (∀ h : k < l.length, l[k]'h ≠ 0) → strip l = l.drop k
  | [], k, hk, _, _ => by simp [strip]
  | x :: r, 0, _, _, h => by
    have := h (by simp)
    simp only [List.getElem_cons_zero] at this
    simp [strip, this]
  | x :: r, k + 1, hk, hz, h => by
    have h0 : x = 0 := hz 0 (by simp) (by omega)
    rw [strip, if_pos h0, List.drop_succ_cons]
    refine strip_drop r k (by simpa using hk) (fun j hj hjk => ?_) (fun hk' => ?_)
    · have := hz (j + 1) (by simpa using hj) (by omega)
      simpa using this
    · have := h (by simpa using hk')
      simpa using this
theorem strip_le : ∀ l : List Nat, (strip l).length ≤ l.length
  | [] => by simp [strip]
  | x :: r => by
    rw [strip]
    split
    · have := strip_le r
      simp; omega
    · simp
theorem strip_mem : ∀ (l : List Nat) (x : Nat), x ∈ strip l → x ∈ l
  | [], x, h => by simp [strip] at h
  | y :: r, x, h => by
    rw [strip] at h
    split at h
    · exact List.mem_cons_of_mem _ (strip_mem r x h)
    · exact h
theorem strip_head : ∀ (l : List Nat), (strip l).head? ≠ some 0
  | [] => by simp [strip]
  | x :: r => by
    rw [strip]
    split
    · exact strip_head r
    · rename_i h
      simpa using h
theorem strip_self (l : List Nat) (h : l.head? ≠ some 0) : strip l = l := by
  cases l with
  | nil => rfl
  | cons x r =>
    have : x ≠ 0 := by simpa using h
    rw [strip, if_neg this]
theorem natOf_strip : ∀ l : List Nat, natOf (strip l) = natOf l
  | [] => rfl
  | x :: r => by
    rw [strip]
    split
    · rename_i h
      rw [natOf_strip r, h, natOf_zero_cons]
    · rfl
/-- Bytes without a leading zero are told by their number. -/
theorem natOf_inj : ∀ (a b : List Nat), a.length = b.length → (∀ x ∈ a, x < 256) → (∀ x ∈ b, x < 256) → natOf a = natOf b → a = b
  | [], [], _, _, _, _ => rfl
  | [], _ :: _, h, _, _, _ => by simp at h
  | _ :: _, [], h, _, _, _ => by simp at h
  | x :: r, y :: s, hl, ha, hb, h => by
    have hl' : r.length = s.length := by simpa using hl
    have hr := natOf_lt r (fun z hz => ha z (List.mem_cons_of_mem _ hz))
    have hs := natOf_lt s (fun z hz => hb z (List.mem_cons_of_mem _ hz))
    simp only [natOf, hl'] at h
    rw [hl'] at hr
    have hx : x = y := by
      have e1 : (x * 256 ^ s.length + natOf r) / 256 ^ s.length = x := by
        rw [Nat.mul_comm, Nat.mul_add_div (Nat.pow_pos (by omega)), Nat.div_eq_of_lt hr]; rfl
      have e2 : (y * 256 ^ s.length + natOf s) / 256 ^ s.length = y := by
        rw [Nat.mul_comm, Nat.mul_add_div (Nat.pow_pos (by omega)), Nat.div_eq_of_lt hs]; rfl
      rw [← e1, h, e2]
    subst hx
    rw [natOf_inj r s hl' (fun z hz => ha z (List.mem_cons_of_mem _ hz)) (fun z hz => hb z (List.mem_cons_of_mem _ hz)) (by omega)]
theorem natOf_len {a b : List Nat} (ha : ∀ x ∈ a, x < 256) (hb : ∀ x ∈ b, x < 256) (h : b.head? ≠ some 0) (hn : natOf b ≤ natOf a) : b.length ≤ a.length := by
  cases b with
  | nil => simp
  | cons y s =>
    have hy : y ≠ 0 := by simpa using h
    have h1 := natOf_pos y s hy
    have h2 := natOf_lt a ha
    by_cases hlt : a.length ≤ s.length
    · have := Nat.pow_le_pow_right (n := 256) (by omega) hlt
      omega
    · simp; omega
theorem natOf_unique {a b : List Nat} (ha : ∀ x ∈ a, x < 256) (hb : ∀ x ∈ b, x < 256) (h1 : a.head? ≠ some 0) (h2 : b.head? ≠ some 0) (hn : natOf a = natOf b) : a = b :=
  natOf_inj a b (Nat.le_antisymm (natOf_len hb ha h1 (by omega)) (natOf_len ha hb h2 (by omega))) ha hb hn
theorem natOf_eq_zero {a : List Nat} (h1 : a.head? ≠ some 0) : natOf a = 0 ↔ a = [] := by
  cases a with
  | nil => simp [natOf]
  | cons x r =>
    have := natOf_pos x r (by simpa using h1)
    have hp : 0 < 256 ^ r.length := Nat.pow_pos (by omega)
    constructor
    · intro h; omega
    · intro h; cases h
/-- The number of words, the lowest first. -/
def valW : List Nat → Nat
  | [] => 0
  | x :: r => x + W64 * valW r
theorem valW_append (a b : List Nat) : valW (a ++ b) = valW a + W64 ^ a.length * valW b := by
  induction a with
  | nil => simp [valW]
  | cons x r ih =>
    simp only [List.cons_append, valW, ih, List.length_cons, Nat.pow_succ]
    rw [Nat.mul_add, ← Nat.mul_assoc, Nat.mul_comm W64 (W64 ^ r.length)]
    omega
theorem valW_lt (l : List Nat) (h : ∀ x ∈ l, x < W64) : valW l < W64 ^ l.length := by
  induction l with
  | nil => simp [valW]
  | cons x r ih =>
    have h1 := ih (fun y hy => h y (List.mem_cons_of_mem _ hy))
    have h2 : x < W64 := h x (List.mem_cons_self ..)
    simp only [valW, List.length_cons, Nat.pow_succ]
    have h3 : W64 * valW r + W64 ≤ W64 * W64 ^ r.length := by
      have := Nat.mul_le_mul_left W64 h1
      rw [Nat.mul_succ] at this
      exact this
    rw [Nat.mul_comm (W64 ^ r.length) W64]
    omega
theorem valW_zeros (n : Nat) : valW (List.replicate n 0) = 0 := by
  induction n with
  | zero => rfl
  | succ n ih => simp [List.replicate_succ, valW, ih]
theorem valW_set : ∀ (ws : List Nat) (k : Nat) (x : Nat) (h : k < ws.length), ws[k]'h = 0 → valW (ws.set k x) = valW ws + W64 ^ k * x
  | [], k, x, h, _ => by simp at h
  | y :: r, 0, x, h, h0 => by
    have h0' : y = 0 := by simpa using h0
    simp [valW, h0']
    omega
  | y :: r, k + 1, x, h, h0 => by
    have := valW_set r k x (by simpa using h) (by simpa using h0)
    simp only [List.set_cons_succ, valW, this, Nat.pow_succ]
    rw [Nat.mul_add, ← Nat.mul_assoc, Nat.mul_comm W64 (W64 ^ k)]
    omega
theorem valW_take (ws : List Nat) (k : Nat) (hk : k ≤ ws.length) (h : ∀ j (hj : j < ws.length), k ≤ j → ws[j]'hj = 0) : valW (ws.take k) = valW ws := by
  have e : ws.drop k = List.replicate (ws.length - k) 0 := by
    apply List.ext_getElem
    · simp
    · intro i h1 h2
      have h3 : i < ws.length - k := by simpa using h1
      have := h (k + i) (by omega) (by omega)
      simp [this]
  have h1 : valW (ws.take k ++ ws.drop k) = valW ws := by rw [List.take_append_drop]
  rw [valW_append, e, valW_zeros] at h1
  simpa using h1
theorem valW_top (ws : List Nat) (x : Nat) (h : x ≠ 0) : W64 ^ ws.length ≤ valW (ws ++ [x]) := by
  rw [valW_append]
  have : W64 ^ ws.length * 1 ≤ W64 ^ ws.length * valW [x] := Nat.mul_le_mul_left _ (by simp [valW]; omega)
  omega
theorem valW_inj : ∀ (a b : List Nat), a.length = b.length → (∀ x ∈ a, x < W64) → (∀ x ∈ b, x < W64) → valW a = valW b → a = b
  | [], [], _, _, _, _ => rfl
  | [], _ :: _, h, _, _, _ => by simp at h
  | _ :: _, [], h, _, _, _ => by simp at h
  | x :: r, y :: s, hl, ha, hb, h => by
    have hx1 : x < W64 := ha x (List.mem_cons_self ..)
    have hy1 : y < W64 := hb y (List.mem_cons_self ..)
    simp only [valW] at h
    have hx : x = y := by
      have e1 : (x + W64 * valW r) % W64 = x := by rw [Nat.add_mul_mod_self_left, Nat.mod_eq_of_lt hx1]
      have e2 : (y + W64 * valW s) % W64 = y := by rw [Nat.add_mul_mod_self_left, Nat.mod_eq_of_lt hy1]
      rw [← e1, h, e2]
    subst hx
    have hv : valW r = valW s := Nat.eq_of_mul_eq_mul_left W64_pos (by omega)
    rw [valW_inj r s (by simpa using hl) (fun z hz => ha z (List.mem_cons_of_mem _ hz)) (fun z hz => hb z (List.mem_cons_of_mem _ hz)) hv]
/-- A word in the midst of bytes. -/
theorem natOf_cut (l : List Nat) (i m : Nat) (hm : m ≤ i) (hi : i ≤ l.length) : natOf (l.drop (i - m)) = natOf ((l.drop (i - m)).take m) * 256 ^ (l.length - i) + natOf (l.drop i) := by
  have e : l.drop (i - m) = (l.drop (i - m)).take m ++ l.drop i := by
    have h := (List.take_append_drop m (l.drop (i - m))).symm
    rw [List.drop_drop, show i - m + m = i by omega] at h
    exact h
  have h2 := congrArg natOf e
  rw [natOf_append] at h2
  rw [h2]
  simp
theorem pow256_8 (k : Nat) : 256 ^ (8 * k) = W64 ^ k := by rw [Nat.pow_mul, ← W64_eq]
end Go.Proofs.YteibkaonofkcbaaGreat
