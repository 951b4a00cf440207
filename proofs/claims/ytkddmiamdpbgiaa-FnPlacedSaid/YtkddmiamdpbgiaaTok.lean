/- Instructions as they are read: plain. -/
import Derived.Test.YtkddmiamdpbgiaaIns
namespace Go.Proofs.Ytkddmiamdpbgiaa
open Go.RowKit
/-- What is read of an instruction: itself, and what does nothing behind a jump. -/
def Ins.pads (x : Ins) : Nat := if x.op = 44 ∨ x.op = 45 then 4 - (vints x.arg).length else 0
def Ins.toks (x : Ins) : List (Nat × Nat) := (x.op, x.arg) :: List.replicate x.pads (0, 0)
def toksOf (l : List Ins) : List (Nat × Nat) := (l.map Ins.toks).flatten
def tokBytes (t : Nat × Nat) : List Nat := t.1 :: (if 43 ≤ t.1 then vints t.2 else [])
def readOf (ts : List (Nat × Nat)) : List Nat := (ts.map tokBytes).flatten
theorem readOf_cons (t : Nat × Nat) (ts : List (Nat × Nat)) : readOf (t :: ts) = tokBytes t ++ readOf ts := by simp [readOf]
theorem readOf_append (a b : List (Nat × Nat)) : readOf (a ++ b) = readOf a ++ readOf b := by simp [readOf]
theorem readOf_pads (n : Nat) : readOf (List.replicate n (0, 0)) = List.replicate n 0 := by
  induction n with
  | zero => rfl
  | succ n ih => rw [List.replicate_succ, readOf_cons, ih]; rfl
theorem readOf_ins (x : Ins) : readOf x.toks = x.bytes := by
  unfold Ins.toks Ins.bytes
  rw [readOf_cons, readOf_pads]
  unfold tokBytes Ins.tail Ins.pads padded
  by_cases h : x.op = 44 ∨ x.op = 45
  · rw [if_pos h, if_pos h, if_pos (by simp only; omega)]
    simp
  · rw [if_neg h, if_neg h]
    by_cases h2 : 43 ≤ x.op
    · rw [if_pos h2, if_pos h2]; simp
    · rw [if_neg h2, if_neg h2]; simp
theorem toksOf_cons (x : Ins) (l : List Ins) : toksOf (x :: l) = x.toks ++ toksOf l := by simp [toksOf]
theorem readOf_toks (l : List Ins) : readOf (toksOf l) = codeOf l := by
  induction l with
  | nil => rfl
  | cons x xs ih =>
    rw [toksOf_cons, readOf_append, readOf_ins, ih]
    simp [codeOf]
/-- Where the t-th of what is read begins. -/
def tokAt (ts : List (Nat × Nat)) (t : Nat) : Nat := (readOf (ts.take t)).length
theorem tokAt_succ (ts : List (Nat × Nat)) (t : Nat) (h : t < ts.length) : tokAt ts (t + 1) = tokAt ts t + (tokBytes (ts[t]'h)).length := by
  unfold tokAt
  rw [List.take_succ_eq_append_getElem h, readOf_append, List.length_append]
  simp [readOf]
theorem readOf_split (ts : List (Nat × Nat)) (t : Nat) (h : t < ts.length) : readOf ts = readOf (ts.take t) ++ (tokBytes (ts[t]'h) ++ readOf (ts.drop (t + 1))) := by
  conv => lhs; rw [← List.take_append_drop t ts, readOf_append]
  rw [List.drop_eq_getElem_cons h, readOf_cons]
theorem read_at (ts : List (Nat × Nat)) (t k : Nat) (h : t < ts.length) (hk : k < (tokBytes (ts[t]'h)).length) : (readOf ts)[tokAt ts t + k]? = some ((tokBytes (ts[t]'h))[k]'hk) := by
  rw [readOf_split ts t h, List.getElem?_append_right (by unfold tokAt; omega)]
  unfold tokAt
  rw [Nat.add_sub_cancel_left, List.getElem?_append_left hk]
  exact List.getElem?_eq_getElem hk
theorem tokAt_le (ts : List (Nat × Nat)) (t : Nat) : tokAt ts t ≤ (readOf ts).length := by
  unfold tokAt
  conv => rhs; rw [← List.take_append_drop t ts, readOf_append]
  simp
theorem tokAt_all (ts : List (Nat × Nat)) : tokAt ts ts.length = (readOf ts).length := by unfold tokAt; rw [List.take_length]
theorem tokBytes_pos (t : Nat × Nat) : 1 ≤ (tokBytes t).length := by simp [tokBytes]
theorem tokAt_lt (ts : List (Nat × Nat)) (t : Nat) (h : t < ts.length) : tokAt ts t < (readOf ts).length := by
  have h1 := tokAt_succ ts t h
  have h2 := tokAt_le ts (t + 1)
  have h3 := tokBytes_pos (ts[t]'h)
  omega
theorem toks_len_le (ts : List (Nat × Nat)) : ts.length ≤ (readOf ts).length := by
  induction ts with
  | nil => simp
  | cons x xs ih =>
    have := tokBytes_pos x
    rw [readOf_cons, List.length_append, List.length_cons]; omega
/-- The k-th byte of a number, and what is left from there on. -/
theorem vints_at (k : Nat) : ∀ (x : Nat) (hk : k < (vints x).length), (vints x)[k]'hk = (if x / 128 ^ k < 128 then x / 128 ^ k else x / 128 ^ k % 128 + 128) := by
  induction k with
  | zero =>
    intro x hk
    by_cases h : x < 128
    · simp only [vints_small h]; simp [h]
    · simp only [vints_big (show 128 ≤ x by omega)]; simp [h]
  | succ k ih =>
    intro x hk
    by_cases h : x < 128
    · exfalso; rw [vints_small h] at hk; simp at hk
    · have e := vints_big (show 128 ≤ x by omega)
      have hk' : k < (vints (x / 128)).length := by rw [e] at hk; simpa using hk
      have := ih (x / 128) hk'
      simp only [e, List.getElem_cons_succ]
      rw [this, Nat.div_div_eq_div_mul, ← Nat.pow_succ']
theorem vints_end (k : Nat) : ∀ (x : Nat), k < (vints x).length → (k + 1 = (vints x).length ↔ x / 128 ^ k < 128) := by
  induction k with
  | zero =>
    intro x hk
    by_cases h : x < 128
    · rw [vints_small h]; simp [h]
    · rw [vints_big (show 128 ≤ x by omega)]
      have : 1 ≤ (vints (x / 128)).length := by
        by_cases h2 : x / 128 < 128
        · rw [vints_small h2]; simp
        · rw [vints_big (show 128 ≤ x / 128 by omega)]; simp
      simp only [List.length_cons, Nat.pow_zero, Nat.div_one]
      constructor
      · intro h3; omega
      · intro h3; omega
  | succ k ih =>
    intro x hk
    by_cases h : x < 128
    · exfalso; rw [vints_small h] at hk; simp at hk
    · have e := vints_big (show 128 ≤ x by omega)
      have hk' : k < (vints (x / 128)).length := by rw [e] at hk; simpa using hk
      have := ih (x / 128) hk'
      rw [e, List.length_cons]
      rw [Nat.div_div_eq_div_mul, ← Nat.pow_succ'] at this
      rw [← this]
      omega
end Go.Proofs.Ytkddmiamdpbgiaa
