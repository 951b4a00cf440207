/- Scalars of a law's arguments: an int of 32 bits, a text, nothing. -/
import Derived.Test.YthoemgnfklhgjaaGreatDoorNum
import Derived.Test.YthoemgnfklhgjaaGreatDoorIntLen
namespace Go.Proofs.YthoemgnfklhgjaaGreatDoor
open Go.RowKit
attribute [local go_sem ↓] Go.wp_at_zero Go.wp_at_succ
inductive Sc where
  | none
  | int (n : Int)
  | str (t : ByteArray)
def pNone : Value := .agg #[.int .i64 0, .bool false, .slice none 0 0, .int .u64 0, .string ⟨#[]⟩, .slice none 0 0]
def pStr (t : ByteArray) : Value := .agg #[.int .i64 4, .bool false, .slice none 0 0, .int .u64 0, .string t, .slice none 0 0]
def PVal (w : World) (B : Nat) (v : Value) : Sc → Prop
  | .none => v = pNone
  | .int n => ∃ neg l, IVal w B v neg l ∧ intOf2 neg l = n
  | .str t => v = pStr t
def Sc.ok : Sc → Prop
  | .int n => -2147483648 ≤ n ∧ n ≤ 2147483647
  | _ => True
theorem PVal.below {w w' : World} {B : Nat} {v : Value} {s : Sc} (h : PVal w B v s) (hb : Below w.heap.size w w') : PVal w' B v s := by
  cases s with
  | none => exact h
  | int n => obtain ⟨neg, l, h1, h2⟩ := h; exact ⟨neg, l, h1.below hb, h2⟩
  | str t => exact h
theorem text_val (t : ByteArray) (w : World) :
    Calls Tryz.prog 8 #[.string t] w fun e w' => e = .returned (pStr t) ∧ Below w.heap.size w w' := by
  have HB := Lib.hid ((Below.refl w.heap.size w).alloc (Nat.le_refl _) (.cells #[.int .i64 4, .bool false, .slice none 0 0, .int .u64 0, .string t, .slice none 0 0] 28))
  go_enter Tryz.func8, Tryz.ntmps8
  go_wp2
  exact bodyPost_ret (v := pStr t) (by simp [results, Tryz.results8, go_sem, pStr]) rfl ⟨rfl, HB.out⟩
end Go.Proofs.YthoemgnfklhgjaaGreatDoor
