/- A literal's text, and what stands in it at each place: the plain part. -/
import Derived.Test.YtghendoiohfolaaGreatDoorStr
import Derived.Test.YtghendoiohfolaaGreatDoorUnqPlain
namespace Go.Proofs.YtghendoiohfolaaGreatDoor
set_option linter.unusedSimpArgs false
set_option linter.unusedVariables false
set_option linter.unnecessarySimpa false
/-- The byte at a place; 0 behind the end. -/
def pk (l : List UInt8) (i : Nat) : UInt8 := l.getD i 0
/-- A literal's text: letters ahead, so many quotes, a body, as many quotes. -/
def litL (a : List UInt8) (wd : Nat) (q : UInt8) (B : List UInt8) : List UInt8 := a ++ (List.replicate wd q ++ (B ++ List.replicate wd q))
/-- What is known of a body. -/
structure Body (q : UInt8) (B : List UInt8) : Prop where
  noq : q ∉ B
  nol : (10 : UInt8) ∉ B
  last : ∀ x, B.getLast? = some x → x ≠ 92
  len : B.length ≤ 1000
/-- No sign below 32 but tabs and line ends, and none that is 127. -/
def PlainL (l : List UInt8) : Prop := ∀ c ∈ l, (32 ≤ c.toNat ∨ c.toNat = 9 ∨ c.toNat = 10) ∧ c.toNat ≠ 127
section
variable {a B : List UInt8} {wd : Nat} {q : UInt8}
theorem litL_len : (litL a wd q B).length = a.length + wd + B.length + wd := by simp [litL]; omega
theorem pk_at {l : List UInt8} {i : Nat} (h : i < l.length) : pk l i = l[i] := by simp [pk, List.getD_eq_getElem?_getD, h]
theorem pk_out {l : List UInt8} {i : Nat} (h : l.length ≤ i) : pk l i = 0 := by simp [pk, List.getD_eq_getElem?_getD, h]
theorem pk_left {x y : List UInt8} {i : Nat} (h : i < x.length) : pk (x ++ y) i = pk x i := by
  simp only [pk, List.getD_eq_getElem?_getD, List.getElem?_append_left h]
theorem pk_right {x y : List UInt8} {i j : Nat} (h : i = x.length + j) : pk (x ++ y) i = pk y j := by
  subst h
  simp only [pk, List.getD_eq_getElem?_getD, List.getElem?_append_right (Nat.le_add_right _ _), Nat.add_sub_cancel_left]
theorem pk_rep {j n : Nat} (h : j < n) : pk (List.replicate n q) j = q := by simp [pk, List.getD_eq_getElem?_getD, h]
theorem pk_ahead (t : List UInt8) {i : Nat} (h : i < a.length) : pk (litL a wd q B ++ t) i = pk a i := by
  unfold litL
  rw [List.append_assoc, pk_left h]
theorem pk_open (t : List UInt8) {i j : Nat} (h : j < wd) (hi : i = a.length + j) : pk (litL a wd q B ++ t) i = q := by
  unfold litL
  rw [List.append_assoc, pk_right hi, List.append_assoc, pk_left (by simpa using h), pk_rep h]
theorem pk_body (t : List UInt8) {i j : Nat} (h : j < B.length) (hi : i = a.length + wd + j) : pk (litL a wd q B ++ t) i = pk B j := by
  unfold litL
  rw [List.append_assoc, pk_right (j := wd + j) (by omega), List.append_assoc, pk_right (j := j) (by simp), List.append_assoc, pk_left h]
theorem pk_close (t : List UInt8) {i j : Nat} (h : j < wd) (hi : i = a.length + wd + B.length + j) : pk (litL a wd q B ++ t) i = q := by
  unfold litL
  rw [List.append_assoc, pk_right (j := wd + (B.length + j)) (by omega), List.append_assoc, pk_right (j := B.length + j) (by simp), List.append_assoc, pk_right (j := j) rfl, pk_left (by simpa using h), pk_rep h]
theorem pk_behind (t : List UInt8) {i j : Nat} (hi : i = a.length + wd + B.length + wd + j) : pk (litL a wd q B ++ t) i = pk t j := by
  rw [pk_right (j := j) (by rw [litL_len]; omega)]
theorem litL_drop : (litL a wd q B).drop (a.length + wd) = B ++ List.replicate wd q := by
  unfold litL
  rw [← List.append_assoc, List.drop_left' (by simp)]
theorem litL_cut (t : List UInt8) : ((litL a wd q B ++ t).take (a.length + wd + B.length)).drop (a.length + wd) = B := by
  unfold litL
  rw [← List.append_assoc, ← List.append_assoc, List.append_assoc, List.take_left' (by simp; omega), List.drop_left' (by simp)]
theorem Body.at_ne (h : Body q B) {j : Nat} (hj : j < B.length) : pk B j ≠ q ∧ pk B j ≠ 10 := by
  rw [pk_at hj]
  exact ⟨fun e => h.noq (e ▸ List.getElem_mem hj), fun e => h.nol (e ▸ List.getElem_mem hj)⟩
theorem Body.bs (h : Body q B) {j : Nat} (hj : j < B.length) (h92 : pk B j = 92) : j + 1 < B.length := by
  rcases Nat.lt_or_ge (j + 1) B.length with h1 | h1
  · exact h1
  · exfalso
    have e : B.getLast? = some (B[j]) := by rw [List.getLast?_eq_getElem?, show B.length - 1 = j by omega, List.getElem?_eq_getElem hj]
    rw [pk_at hj] at h92
    exact h.last _ e h92
theorem plain_at {l : List UInt8} (h : PlainL l) {j : Nat} (hj : j < l.length) : (32 ≤ (pk l j).toNat ∨ (pk l j).toNat = 9 ∨ (pk l j).toNat = 10) ∧ (pk l j).toNat ≠ 127 := by
  rw [pk_at hj]
  exact h _ (List.getElem_mem hj)
end
/-- A text without a sign, and without its line ends. -/
def filt (q : UInt8) (l : List UInt8) : List UInt8 := l.filter fun c => !(c == q) && !(c == 10)
theorem filt_snoc (q : UInt8) (l : List UInt8) (c : UInt8) : filt q (l ++ [c]) = filt q l ++ (if c = q ∨ c = 10 then [] else [c]) := by
  unfold filt
  rw [List.filter_append]
  by_cases h1 : c = q <;> by_cases h2 : c = 10 <;> simp [List.filter_cons, h1, h2]
theorem filt_len (q : UInt8) (l : List UInt8) : (filt q l).length ≤ l.length := List.length_filter_le _ _
theorem filt_no (q : UInt8) (l : List UInt8) : q ∉ filt q l ∧ (10 : UInt8) ∉ filt q l := by
  constructor <;> · intro h; simp [filt] at h
/-- The text is the front of another one, which has backslashes alone behind it. -/
theorem body_of {q : UInt8} {l : List UInt8} {n : Nat} (h1 : q ∉ l) (h2 : (10 : UInt8) ∉ l) (hl : l.length ≤ 1000) (h3 : n ≤ l.length) (h : n = 0 ∨ pk l (n - 1) ≠ 92) : Body q (l.take n) := by
  refine ⟨fun hm => h1 (List.mem_of_mem_take hm), fun hm => h2 (List.mem_of_mem_take hm), fun x hx e => ?_, by rw [List.length_take]; omega⟩
  rcases h with rfl | h
  · simp at hx
  · rw [List.getLast?_eq_getElem?, List.length_take, Nat.min_eq_left h3] at hx
    rcases Nat.eq_zero_or_pos n with rfl | hn
    · simp at hx
    · rw [List.getElem?_take_of_lt (by omega), List.getElem?_eq_getElem (by omega)] at hx
      injection hx with hx
      rw [pk_at (by omega), hx] at h
      exact h e
end Go.Proofs.YtghendoiohfolaaGreatDoor
