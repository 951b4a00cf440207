/- How often a part stands in a list, none over the other: no program in sight. -/
import Derived.Test.YthoemgnfklhgjaaGreatStr
namespace Go.Proofs.YthoemgnfklhgjaaGreat
/-- At most f looks. -/
def occF (p : List UInt8) : Nat → List UInt8 → Nat
  | 0, _ => 0
  | f + 1, l => if l.length < p.length then 0 else if l.take p.length = p then occF p f (l.drop p.length) + 1 else occF p f (l.drop 1)
theorem occF_eq (p : List UInt8) (hp : p ≠ []) (f : Nat) : ∀ (g : Nat) (l : List UInt8), l.length < f → l.length < g → occF p f l = occF p g l := by
  have hpl : 0 < p.length := List.length_pos_iff.2 hp
  induction f with
  | zero => intro g l h; omega
  | succ f ih =>
    intro g l h h2
    obtain ⟨g, rfl⟩ : ∃ g', g = g' + 1 := ⟨g - 1, by omega⟩
    simp only [occF]
    by_cases h1 : l.length < p.length
    · rw [if_pos h1, if_pos h1]
    · rw [if_neg h1, if_neg h1]
      rw [ih g (l.drop p.length) (by simp; omega) (by simp; omega), ih g (l.drop 1) (by simp; omega) (by simp; omega)]
/-- How often p stands in l from k on. -/
def rest (p l : List UInt8) (k : Nat) : Nat := if p = [] then l.length + 1 - k else occF p (l.length + 1) (l.drop k)
theorem rest_hit {p l : List UInt8} {k : Nat} (hk : k + p.length ≤ l.length) (h : (l.drop k).take p.length = p) : rest p l k = rest p l (max (k + 1) (k + p.length)) + 1 := by
  unfold rest
  by_cases hp : p = []
  · subst hp
    simp only [List.length_nil, Nat.add_zero, if_true] at hk ⊢
    rw [show max (k + 1) k = k + 1 by omega]
    omega
  · have hpl : 0 < p.length := List.length_pos_iff.2 hp
    rw [if_neg hp, if_neg hp, show max (k + 1) (k + p.length) = k + p.length by omega]
    conv => lhs; rw [occF]
    rw [if_neg (by simp; omega), if_pos h, List.drop_drop]
    rw [occF_eq p hp l.length (l.length + 1) (l.drop (k + p.length)) (by simp; omega) (by simp; omega)]
theorem rest_miss {p l : List UInt8} {k : Nat} (hk : k + p.length ≤ l.length) (h : (l.drop k).take p.length ≠ p) : rest p l k = rest p l (k + 1) := by
  unfold rest
  by_cases hp : p = []
  · subst hp; exact absurd (by simp) h
  · have hpl : 0 < p.length := List.length_pos_iff.2 hp
    rw [if_neg hp, if_neg hp]
    conv => lhs; rw [occF]
    rw [if_neg (by simp; omega), if_neg h, List.drop_drop]
    rw [occF_eq p hp l.length (l.length + 1) (l.drop (k + 1)) (by simp; omega) (by simp; omega)]
theorem rest_end {p l : List UInt8} {k : Nat} (hk : l.length < k + p.length) : rest p l k = 0 := by
  unfold rest
  by_cases hp : p = []
  · subst hp; rw [if_pos rfl]; simp at hk; omega
  · have hpl : 0 < p.length := List.length_pos_iff.2 hp
    rw [if_neg hp]
    simp only [occF]
    rw [if_pos (by simp; omega)]
theorem rest_le (p l : List UInt8) (k : Nat) : rest p l k ≤ l.length + 1 - k := by
  by_cases hp : p = []
  · unfold rest; rw [if_pos hp]; omega
  · have hpl : 0 < p.length := List.length_pos_iff.2 hp
    obtain ⟨n, hn⟩ : ∃ n, n = l.length + 1 - k := ⟨_, rfl⟩
    rw [← hn]
    induction n using Nat.strongRecOn generalizing k with
    | _ n ih =>
      by_cases h : k + p.length ≤ l.length
      · by_cases he : (l.drop k).take p.length = p
        · rw [rest_hit h he]
          have := ih (l.length + 1 - max (k + 1) (k + p.length)) (by omega) _ rfl
          omega
        · rw [rest_miss h he]
          have := ih (l.length + 1 - (k + 1)) (by omega) _ rfl
          omega
      · rw [rest_end (by omega)]; omega
/-- The part of a text between two places. -/
def mid (s : List UInt8) (a b : Nat) : List UInt8 := (s.take b).drop a
theorem mid_len (s : List UInt8) (a b : Nat) (h : b ≤ s.length) : (mid s a b).length = b - a := by unfold mid; simp; omega
theorem mid_part (s : List UInt8) (a b k n : Nat) (h : a + k + n ≤ b) : ((mid s a b).drop k).take n = (s.drop (a + k)).take n := by
  unfold mid
  rw [List.drop_drop, List.drop_take, List.take_take]
  congr 1
  omega
theorem mid_nil (s : List UInt8) (a b : Nat) (h : b ≤ a) : mid s a b = [] := by
  unfold mid
  apply List.drop_eq_nil_of_le
  simp; omega
end Go.Proofs.YthoemgnfklhgjaaGreat
