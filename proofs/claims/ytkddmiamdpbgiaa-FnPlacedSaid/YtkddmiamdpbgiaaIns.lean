/- Instructions, the bytes they are written as, and the rows of their places: plain. -/
import Derived.Test.YtkddmiamdpbgiaaRow16
namespace Go.Proofs.Ytkddmiamdpbgiaa
open Go.RowKit
structure Ins where
  op : Nat
  arg : Nat
  line : Int
  col : Int
def Ins.cells (x : Ins) : List Value := [.int .u8 (x.op : Int), .int .u32 (x.arg : Int), .int .i32 x.line, .int .i32 x.col]
def Ins.tail (x : Ins) : List Nat := if x.op = 44 ∨ x.op = 45 then padded x.arg 4 else if 43 ≤ x.op then padded x.arg 0 else []
def Ins.bytes (x : Ins) : List Nat := x.op :: x.tail
def codeOf (l : List Ins) : List Nat := (l.map Ins.bytes).flatten
/-- The rows of the places of l, from the place p, l, c on, the first instruction being at pc. -/
def rowsOf : List Ins → Nat → Nat → Int → Int → List Nat
  | [], _, _, _, _ => []
  | x :: xs, pc, p, l, c =>
    if x.line = 0 then rowsOf xs (pc + x.bytes.length) p l c
    else deltas 1000000 (pc - p) (x.line - l) (x.col - c) ++ rowsOf xs (pc + x.bytes.length) pc x.line x.col
/-- The places of l, told by their first bytes. -/
def placesOf : List Ins → Nat → List (Nat × Int × Int)
  | [], _ => []
  | x :: xs, pc => if x.line = 0 then placesOf xs (pc + x.bytes.length) else (pc, x.line, x.col) :: placesOf xs (pc + x.bytes.length)
theorem undelta_rows : ∀ (l : List Ins) (pc p : Nat) (ln c : Int), p ≤ pc → pc + (codeOf l).length ≤ 100000 → (ln.natAbs ≤ 100000 ∧ c.natAbs ≤ 100000) →
    (∀ x ∈ l, x.line.natAbs ≤ 100000 ∧ x.col.natAbs ≤ 100000) → undelta (rowsOf l pc p ln c) p ln c = placesOf l pc := by
  intro l
  induction l with
  | nil => intros; rfl
  | cons x xs ih =>
    intro pc p ln c hp hpc hlc hall
    have hx := hall x (by simp)
    have hxs : ∀ y ∈ xs, y.line.natAbs ≤ 100000 ∧ y.col.natAbs ≤ 100000 := fun y hy => hall y (by simp [hy])
    have hcl : (codeOf (x :: xs)).length = x.bytes.length + (codeOf xs).length := by simp [codeOf]
    rw [hcl] at hpc
    unfold rowsOf placesOf
    by_cases h0 : x.line = 0
    · rw [if_pos h0, if_pos h0]
      exact ih _ _ _ _ (by omega) (by omega) hlc hxs
    · rw [if_neg h0, if_neg h0, undelta_deltas _ _ _ _ _ (by omega)]
      rw [show p + (pc - p) = pc by omega, show ln + (x.line - ln) = x.line by omega, show c + (x.col - c) = x.col by omega]
      rw [ih _ _ _ _ (by omega) (by omega) hx hxs]
end Go.Proofs.Ytkddmiamdpbgiaa
