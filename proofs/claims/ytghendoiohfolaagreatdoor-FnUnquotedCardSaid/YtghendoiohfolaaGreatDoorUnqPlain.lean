/- What stands between a literal's quotes denotes: the plain part, for the reference's steps and the program's. -/
import Derived.Lib.RuneBytes
namespace Go.Proofs.YtghendoiohfolaaGreatDoor
set_option linter.unusedSimpArgs false
set_option linter.unusedVariables false
set_option linter.unnecessarySimpa false
/-- The signs that denote one byte behind a backslash. -/
def one? (c : UInt8) : Option UInt8 :=
  if c = 110 then some 10 else if c = 114 then some 13 else if c = 116 then some 9 else if c = 97 then some 7 else if c = 98 then some 8
  else if c = 102 then some 12 else if c = 118 then some 11 else if c = 34 then some 34 else if c = 39 then some 39 else if c = 92 then some 92 else none
/-- What a sign is worth as a digit of base 16. -/
def hexD (c : UInt8) : Option Nat :=
  if 48 ≤ c.toNat ∧ c.toNat ≤ 57 then some (c.toNat - 48) else if 97 ≤ (c ||| 32).toNat ∧ (c ||| 32).toNat ≤ 102 then some ((c ||| 32).toNat - 87) else none
theorem hexD_lt {c : UInt8} {d : Nat} (h : hexD c = some d) : d < 16 := by
  unfold hexD at h
  split at h
  · simp only [Option.some.injEq] at h; omega
  split at h
  · simp only [Option.some.injEq] at h; omega
  · simp at h
/-- The sixteen. -/
def sixteen : List UInt8 := [48, 49, 50, 51, 52, 53, 54, 55, 56, 57, 97, 98, 99, 100, 101, 102]
/-- The reference looks a sign's lower form up among the sixteen: at plain signs that is what the sign is worth. -/
theorem hexD_sixteen : ∀ k : Fin 256, (32 ≤ k.1 ∨ k.1 = 9 ∨ k.1 = 10) → (∀ d : Fin 16, hexD (UInt8.ofNat k.1) = some d.1 → sixteen.getD d.1 0 = UInt8.ofNat k.1 ||| 32) ∧
    (hexD (UInt8.ofNat k.1) = none → ∀ d : Fin 16, sixteen.getD d.1 0 ≠ UInt8.ofNat k.1 ||| 32) := by decide +kernel
theorem hexD_some {c : UInt8} {d : Nat} (h : hexD c = some d) (hp : 32 ≤ c.toNat ∨ c.toNat = 9 ∨ c.toNat = 10) : d < 16 ∧ sixteen.getD d 0 = c ||| 32 := by
  have hd := hexD_lt h
  have := (hexD_sixteen ⟨c.toNat, c.toNat_lt⟩ hp).1 ⟨d, hd⟩
  simp only [UInt8.ofNat_toNat] at this
  exact ⟨hd, this h⟩
theorem hexD_none {c : UInt8} (h : hexD c = none) (hp : 32 ≤ c.toNat ∨ c.toNat = 9 ∨ c.toNat = 10) : ∀ d, d < 16 → sixteen.getD d 0 ≠ c ||| 32 := by
  have := (hexD_sixteen ⟨c.toNat, c.toNat_lt⟩ hp).2
  simp only [UInt8.ofNat_toNat] at this
  exact fun d hd => this h ⟨d, hd⟩
/-- The number of digits in base 16, behind acc. -/
def hexV : Nat → List UInt8 → Option Nat
  | acc, [] => some acc
  | acc, c :: t => match hexD c with
    | none => none
    | some d => hexV (acc * 16 + d) t
theorem hexV_lt {l : List UInt8} : ∀ {acc n : Nat}, hexV acc l = some n → n < (acc + 1) * 16 ^ l.length := by
  induction l with
  | nil => intro acc n h; simp [hexV] at h; simp; omega
  | cons c t ih =>
    intro acc n h
    simp only [hexV] at h
    split at h
    · simp at h
    · rename_i d hd
      have hlt := hexD_lt hd
      have h1 := ih h
      have h2 : (acc * 16 + d + 1) * 16 ^ t.length ≤ ((acc + 1) * 16) * 16 ^ t.length := Nat.mul_le_mul_right _ (by omega)
      have h3 : (acc + 1) * 16 ^ (c :: t).length = ((acc + 1) * 16) * 16 ^ t.length := by rw [List.length_cons, Nat.pow_succ, Nat.mul_comm (16 ^ t.length) 16, Nat.mul_assoc]
      omega
/-- Up to so many octal digits behind acc: the number, and how many they are. -/
def octV : Nat → Nat → List UInt8 → Nat × Nat
  | 0, acc, _ => (acc, 0)
  | _ + 1, acc, [] => (acc, 0)
  | k + 1, acc, c :: t => if 48 ≤ c.toNat ∧ c.toNat ≤ 55 then ((octV k (acc * 8 + (c.toNat - 48)) t).1, (octV k (acc * 8 + (c.toNat - 48)) t).2 + 1) else (acc, 0)
theorem octV_lt : ∀ {k acc : Nat} {l : List UInt8}, (octV k acc l).1 < (acc + 1) * 8 ^ k ∧ (octV k acc l).2 ≤ k ∧ (octV k acc l).2 ≤ l.length := by
  intro k
  induction k with
  | zero => intro acc l; simp [octV]
  | succ k ih =>
    intro acc l
    have hp : 0 < 8 ^ k := Nat.pow_pos (by omega)
    have h3 : (acc + 1) * 8 ^ (k + 1) = ((acc + 1) * 8) * 8 ^ k := by rw [Nat.pow_succ, Nat.mul_comm (8 ^ k) 8, Nat.mul_assoc]
    have h4 : ((acc + 1) * 8) * 1 ≤ ((acc + 1) * 8) * 8 ^ k := Nat.mul_le_mul_left _ hp
    cases l with
    | nil => simp only [octV]; refine ⟨by omega, by omega, by omega⟩
    | cons c t =>
      simp only [octV]
      split
      · rename_i hd
        have h1 := ih (acc := acc * 8 + (c.toNat - 48)) (l := t)
        have h2 : (acc * 8 + (c.toNat - 48) + 1) * 8 ^ k ≤ ((acc + 1) * 8) * 8 ^ k := Nat.mul_le_mul_right _ (by omega)
        simp only [List.length_cons]
        omega
      · simp only [List.length_cons]
        refine ⟨by omega, by omega, by omega⟩
/-- The bytes of a number, and the bytes that it took. -/
def codedP (n : Nat) (one by_ : Bool) (size : Nat) : Option (List UInt8 × Nat) :=
  if one then (if 255 < n ∨ 127 < n ∧ by_ = false then none else some ([n.toUInt8], size))
  else if 1114111 < n ∨ 55296 ≤ n ∧ n < 57344 then none else some (Lib.encodeRune (n : Int), size)
/-- What begins with a backslash: the bytes, and how many it takes. -/
def esc (by_ : Bool) : List UInt8 → Option (List UInt8 × Nat)
  | [] => none
  | [_] => none
  | _ :: c :: t =>
    match one? c with
    | some x => some ([x], 2)
    | none =>
      if c = 120 then (if t.length < 2 then none else match hexV 0 (t.take 2) with | none => none | some n => codedP n true by_ 4)
      else if c = 117 then (if t.length < 4 then none else match hexV 0 (t.take 4) with | none => none | some n => codedP n false by_ 6)
      else if c = 85 then (if t.length < 8 then none else match hexV 0 (t.take 8) with | none => none | some n => codedP n false by_ 10)
      else if (octV 3 0 (c :: t)).2 = 0 then none else codedP (octV 3 0 (c :: t)).1 true by_ (1 + (octV 3 0 (c :: t)).2)
theorem codedP_size {n : Nat} {one by_ : Bool} {size k : Nat} {p : List UInt8} (h : codedP n one by_ size = some (p, k)) : k = size := by
  unfold codedP at h
  split at h <;> split at h <;> simp at h <;> exact h.2.symm
theorem esc_take {by_ : Bool} {l p : List UInt8} {k : Nat} (h : esc by_ l = some (p, k)) : 1 ≤ k ∧ k ≤ l.length := by
  match l, h with
  | [], h => simp [esc] at h
  | [_], h => simp [esc] at h
  | b :: c :: t, h =>
    simp only [esc] at h
    split at h
    · simp at h; simp; omega
    simp only [List.length_cons]
    split at h
    · split at h
      · simp at h
      split at h
      · simp at h
      have := codedP_size h; omega
    split at h
    · split at h
      · simp at h
      split at h
      · simp at h
      have := codedP_size h; omega
    split at h
    · split at h
      · simp at h
      split at h
      · simp at h
      have := codedP_size h; omega
    split at h
    · simp at h
    · have h1 := codedP_size h
      have h2 := (octV_lt (k := 3) (acc := 0) (l := c :: t)).2.2
      simp only [List.length_cons] at h2
      omega
/-- What a body denotes, by so many steps at most. -/
def unqF (by_ : Bool) : Nat → List UInt8 → Option (List UInt8)
  | 0, _ => some []
  | _ + 1, [] => some []
  | n + 1, c :: l =>
    if c = 92 then (match esc by_ (c :: l) with
      | none => none
      | some (p, k) => (unqF by_ n ((c :: l).drop k)).map (p ++ ·))
    else (unqF by_ n l).map (c :: ·)
theorem unqF_enough (by_ : Bool) : ∀ (n m : Nat) (l : List UInt8), l.length ≤ n → l.length ≤ m → unqF by_ n l = unqF by_ m l := by
  intro n
  induction n with
  | zero =>
    intro m l h _
    have : l = [] := List.eq_nil_of_length_eq_zero (by omega)
    subst this
    cases m <;> rfl
  | succ n ih =>
    intro m l h1 h2
    cases l with
    | nil => cases m <;> rfl
    | cons c l =>
      cases m with
      | zero => simp at h2
      | succ m =>
        simp only [List.length_cons] at h1 h2
        simp only [unqF]
        split
        · split
          · rfl
          · rename_i p k he
            have hk := esc_take he
            simp only [List.length_cons] at hk
            rw [ih m _ (by simp only [List.length_drop, List.length_cons]; omega) (by simp only [List.length_drop, List.length_cons]; omega)]
        · rw [ih m l (by omega) (by omega)]
/-- What a body denotes; none: it is refused. -/
def unq (by_ : Bool) (l : List UInt8) : Option (List UInt8) := unqF by_ l.length l
theorem unq_nil (by_ : Bool) : unq by_ [] = some [] := rfl
theorem unq_plain (by_ : Bool) (c : UInt8) (l : List UInt8) (h : c ≠ 92) : unq by_ (c :: l) = (unq by_ l).map (c :: ·) := by
  simp [unq, unqF, h]
theorem unq_bad (by_ : Bool) (l : List UInt8) (h : esc by_ (92 :: l) = none) : unq by_ (92 :: l) = none := by
  simp [unq, unqF, h]
theorem unq_good (by_ : Bool) (l p : List UInt8) (k : Nat) (h : esc by_ (92 :: l) = some (p, k)) : unq by_ (92 :: l) = (unq by_ ((92 :: l).drop k)).map (p ++ ·) := by
  have hk := esc_take h
  simp only [List.length_cons] at hk
  simp only [unq, unqF, List.length_cons, if_pos, h]
  rw [unqF_enough by_ l.length _ _ (by simp only [List.length_drop, List.length_cons]; omega) (Nat.le_refl _)]
/-- Plain signs ahead. -/
theorem unq_pre (by_ : Bool) (a l : List UInt8) (h : ∀ c ∈ a, c ≠ 92) : unq by_ (a ++ l) = (unq by_ l).map (a ++ ·) := by
  induction a with
  | nil => simp
  | cons c a ih =>
    rw [List.cons_append, unq_plain by_ c _ (h c (List.mem_cons_self ..)), ih fun x hx => h x (List.mem_cons_of_mem _ hx)]
    cases unq by_ l <;> simp
theorem unq_all (by_ : Bool) (a : List UInt8) (h : ∀ c ∈ a, c ≠ 92) : unq by_ a = some a := by
  have := unq_pre by_ a [] h
  simpa [unq_nil] using this
end Go.Proofs.YtghendoiohfolaaGreatDoor
