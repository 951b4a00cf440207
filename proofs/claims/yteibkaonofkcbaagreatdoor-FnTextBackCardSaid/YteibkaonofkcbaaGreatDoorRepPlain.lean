/- A text with another part in each place of one: plain Lean, no program in sight. -/
import Derived.Test.YteibkaonofkcbaaGreatDoorStr
namespace Go.Proofs.YteibkaonofkcbaaGreatDoor
/-- With at most k steps: p's places in l hold q, n of them (all, below 0). -/
def repF : Nat → List UInt8 → List UInt8 → List UInt8 → Int → List UInt8
  | 0, _, _, _, _ => []
  | k + 1, p, q, l, n =>
    if n ≠ 0 ∧ l.take p.length = p then
      (if p = [] then q ++ (match l with | [] => [] | c :: r => c :: repF k p q r (n - 1)) else q ++ repF k p q (l.drop p.length) (n - 1))
    else match l with | [] => [] | c :: r => c :: repF k p q r n
theorem repF_succ (k : Nat) (p q l : List UInt8) (n : Int) : repF (k + 1) p q l n =
    if n ≠ 0 ∧ l.take p.length = p then
      (if p = [] then q ++ (match l with | [] => [] | c :: r => c :: repF k p q r (n - 1)) else q ++ repF k p q (l.drop p.length) (n - 1))
    else match l with | [] => [] | c :: r => c :: repF k p q r n := rfl
def rep (p q l : List UInt8) (n : Int) : List UInt8 := repF (l.length + 1) p q l n
theorem repF_fuel (p q : List UInt8) : ∀ (k k' : Nat) (l : List UInt8) (n : Int), l.length < k → l.length < k' → repF k p q l n = repF k' p q l n := by
  intro k
  induction k with
  | zero => intro k' l n h; omega
  | succ k ih =>
    intro k' l n h h'
    match k', h' with
    | k' + 1, h' =>
      unfold repF
      by_cases hc : n ≠ 0 ∧ l.take p.length = p
      · rw [if_pos hc, if_pos hc]
        by_cases hp : p = []
        · rw [if_pos hp, if_pos hp]
          cases l with
          | nil => rfl
          | cons c r => simp only; rw [ih k' r (n - 1) (by simp at h; omega) (by simp at h'; omega)]
        · rw [if_neg hp, if_neg hp]
          have hpl : p.length ≠ 0 := fun e => hp (List.eq_nil_of_length_eq_zero e)
          have hl : l ≠ [] := by rintro rfl; exact hp (by simpa using hc.2.symm)
          have hll : l.length ≠ 0 := fun e => hl (List.eq_nil_of_length_eq_zero e)
          rw [ih k' (l.drop p.length) (n - 1) (by simp; omega) (by simp; omega)]
      · rw [if_neg hc, if_neg hc]
        cases l with
        | nil => rfl
        | cons c r => simp only; rw [ih k' r n (by simp at h; omega) (by simp at h'; omega)]
variable {p q l r : List UInt8} {n : Int} {c : UInt8}
theorem rep_skip (h : ¬ (n ≠ 0 ∧ (c :: r).take p.length = p)) : rep p q (c :: r) n = c :: rep p q r n := by
  unfold rep
  rw [repF_succ, if_neg h]
  simp only [List.length_cons]
theorem rep_end (h : ¬ (n ≠ 0 ∧ p = [])) : rep p q [] n = [] := by
  unfold rep
  rw [repF_succ, if_neg (by rintro ⟨h1, h2⟩; exact h ⟨h1, by simpa using h2.symm⟩)]
theorem rep_zero : rep p q l 0 = l := by
  induction l with
  | nil => exact rep_end (by simp)
  | cons c r ih => rw [rep_skip (by simp), ih]
theorem rep_hit (hn : n ≠ 0) (hp : p ≠ []) (h : l.take p.length = p) : rep p q l n = q ++ rep p q (l.drop p.length) (n - 1) := by
  have hl : l ≠ [] := by rintro rfl; exact hp (by simpa using h.symm)
  have hll : l.length ≠ 0 := fun e => hl (List.eq_nil_of_length_eq_zero e)
  have hpl : p.length ≠ 0 := fun e => hp (List.eq_nil_of_length_eq_zero e)
  unfold rep
  rw [repF_succ, if_pos ⟨hn, h⟩, if_neg hp]
  congr 1
  exact repF_fuel p q _ _ _ _ (by simp; omega) (by simp)
theorem rep_e (hn : n ≠ 0) : rep [] q [] n = q := by
  unfold rep
  rw [repF_succ, if_pos ⟨hn, by simp⟩, if_pos rfl]
  simp
theorem rep_ec (hn : n ≠ 0) : rep [] q (c :: r) n = q ++ c :: rep [] q r (n - 1) := by
  unfold rep
  rw [repF_succ, if_pos ⟨hn, by simp⟩, if_pos rfl]
  simp only [List.length_cons]
theorem rep_none (hp : p ≠ []) : ∀ (l : List UInt8), (∀ j, (l.drop j).take p.length ≠ p) → rep p q l n = l := by
  intro l
  induction l with
  | nil => intro _; exact rep_end (by simp [hp])
  | cons c r ih =>
    intro h
    rw [rep_skip (fun e => h 0 (by simpa using e.2)), ih (fun j => by simpa using h (j + 1))]
theorem rep_at (hn : n ≠ 0) (hp : p ≠ []) : ∀ (i : Nat) (l : List UInt8), (∀ j, j < i → (l.drop j).take p.length ≠ p) → (l.drop i).take p.length = p → rep p q l n = l.take i ++ (q ++ rep p q (l.drop (i + p.length)) (n - 1)) := by
  intro i
  induction i with
  | zero => intro l _ h; rw [rep_hit hn hp (by simpa using h)]; simp
  | succ i ih =>
    intro l h1 h2
    cases l with
    | nil => exact absurd (by simpa using h2.symm) hp
    | cons c r =>
      rw [rep_skip (fun e => h1 0 (by omega) (by simpa using e.2)), ih r (fun j hj => by simpa using h1 (j + 1) (by omega)) (by simpa using h2)]
      simp [show i + 1 + p.length = i + p.length + 1 by omega]
theorem repF_len : ∀ (k : Nat) (l : List UInt8) (n : Int), (repF k p q l n).length ≤ l.length + (l.length + 1) * q.length := by
  intro k
  induction k with
  | zero => intro l n; simp [repF]
  | succ k ih =>
    intro l n
    unfold repF
    split
    · rename_i hc
      split
      · cases l with
        | nil => simp
        | cons c r =>
          have := ih r (n - 1)
          simp only [List.length_append, List.length_cons]
          have e : (r.length + 1 + 1) * q.length = (r.length + 1) * q.length + q.length := by rw [Nat.add_mul, Nat.one_mul]
          omega
      · rename_i hp
        have hl : l ≠ [] := by rintro rfl; exact hp (by simpa using hc.2.symm)
        have hll : l.length ≠ 0 := fun e => hl (List.eq_nil_of_length_eq_zero e)
        have hpl : p.length ≠ 0 := fun e => hp (List.eq_nil_of_length_eq_zero e)
        have := ih (l.drop p.length) (n - 1)
        simp only [List.length_append, List.length_drop] at this ⊢
        have e : (l.length + 1) * q.length = l.length * q.length + q.length := by rw [Nat.add_mul, Nat.one_mul]
        have e2 : (l.length - p.length + 1) * q.length ≤ l.length * q.length := Nat.mul_le_mul_right _ (by omega)
        omega
    · cases l with
      | nil => simp
      | cons c r =>
        have := ih r n
        simp only [List.length_cons]
        have e : (r.length + 1 + 1) * q.length = (r.length + 1) * q.length + q.length := by rw [Nat.add_mul, Nat.one_mul]
        omega
theorem rep_len (p q l : List UInt8) (n : Int) (hq : q.length ≤ 60) (hl : l.length ≤ 60) : (rep p q l n).length ≤ 3720 := by
  have h := repF_len (p := p) (q := q) (l.length + 1) l n
  have : (l.length + 1) * q.length ≤ 61 * 60 := Nat.mul_le_mul (by omega) hq
  unfold rep
  omega
end Go.Proofs.YteibkaonofkcbaaGreatDoor
