/- Plain facts: the bytes from one place on, each step, ahead of another place. -/
import Derived.Test.YtgajgjjcnahebaaPlain
namespace Go.Proofs.Ytgajgjjcnahebaa
open Go.RowKit
def OkB (n s t st : Int) : Prop := (1 ≤ st ∧ st ≤ 5 ∧ 0 ≤ s ∧ s ≤ t ∧ t ≤ n) ∨ (-4 ≤ st ∧ st ≤ -1 ∧ -1 ≤ t ∧ t ≤ s ∧ s < n)
def sgn (x : Int) : Int := if x < 0 then -1 else if x = 0 then 0 else 1
/-- From place i on, each st, ahead of e; at most f bytes. -/
def str (l : List UInt8) (e st : Int) : Nat → Int → List UInt8
  | 0, _ => []
  | f + 1, i => if (0 < st ∧ i < e) ∨ (st < 0 ∧ e < i) then l.getD i.toNat 0 :: str l e st f (i + st) else []
def Room (e st i : Int) (f : Nat) : Prop := (0 < st → e - i ≤ f) ∧ (st < 0 → i - e ≤ f)
theorem str_more {l : List UInt8} {e st i : Int} {f : Nat} (h : (0 < st ∧ i < e) ∨ (st < 0 ∧ e < i)) (hr : Room e st i f) :
    ∃ f', f = f' + 1 ∧ str l e st f i = l.getD i.toNat 0 :: str l e st f' (i + st) ∧ Room e st (i + st) f' := by
  unfold Room at hr
  match f with
  | 0 => omega
  | f' + 1 =>
    refine ⟨f', rfl, by rw [str, if_pos h], ?_, ?_⟩ <;> intro h <;> omega
theorem str_end {l : List UInt8} {e st i : Int} {f : Nat} (h : ¬ ((0 < st ∧ i < e) ∨ (st < 0 ∧ e < i))) : str l e st f i = [] := by
  cases f with
  | zero => rfl
  | succ f => rw [str, if_neg h]
theorem str_len (l : List UInt8) (e st : Int) : ∀ (f : Nat) (i : Int), (str l e st f i).length ≤ f
  | 0, _ => by simp [str]
  | f + 1, i => by
    rw [str]
    split
    · have := str_len l e st f (i + st)
      simp; omega
    · simp
theorem str_one (l : List UInt8) : ∀ (f : Nat) (i e : Nat), i ≤ e → e ≤ l.length → e - i ≤ f → str l e 1 f i = (l.take e).drop i
  | 0, i, e, h1, h2, h3 => by
    have : e = i := by omega
    subst this
    rw [str, List.drop_eq_nil_of_le (by rw [List.length_take]; omega)]
  | f + 1, i, e, h1, h2, h3 => by
    by_cases h : i < e
    · rw [str, if_pos (by omega)]
      have hi : i < (l.take e).length := by rw [List.length_take]; omega
      rw [List.drop_eq_getElem_cons hi]
      have := str_one l f (i + 1) e (by omega) h2 (by omega)
      rw [show ((i : Int) + 1) = ((i + 1 : Nat) : Int) by omega, this]
      simp [List.getElem?_eq_getElem (show i < l.length by omega)]
    · rw [str, if_neg (by omega), List.drop_eq_nil_of_le (by rw [List.length_take]; omega)]
/-- Whatever the bound on the number of bytes, if it is enough. -/
def strided (l : List UInt8) (s e st : Int) : List UInt8 := str l e st 401 s
theorem strided_one (s : ByteArray) (i e : Nat) (h1 : i ≤ e) (h2 : e ≤ s.size) (h3 : s.size ≤ 400) : s.extract i e = ⟨(strided s.data.toList i e 1).toArray⟩ := by
  rw [strided, str_one _ 401 i e h1 (by simpa using h2) (by omega)]
  apply ByteArray.ext
  simp [Array.ext_iff]
end Go.Proofs.Ytgajgjjcnahebaa
