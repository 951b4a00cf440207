/- A row of texts of its own; texts joined. -/
import Derived.Test.YteibkaonofkcbaaGreatDoorOwn
import Derived.Test.YteibkaonofkcbaaGreatDoorRows
import Derived.Test.YteibkaonofkcbaaGreatDoorChecked
import Derived.Test.YteibkaonofkcbaaGreatDoorStr
namespace Go.Proofs.YteibkaonofkcbaaGreatDoor
open Go.RowKit
def joinL (p : List UInt8) : List ByteArray → List UInt8
  | [] => []
  | [x] => x.data.toList
  | x :: y :: r => x.data.toList ++ (p ++ joinL p (y :: r))
theorem joinL_snoc (p : List UInt8) (y : ByteArray) : ∀ (l : List ByteArray), l ≠ [] → joinL p (l ++ [y]) = joinL p l ++ (p ++ y.data.toList)
  | [], h => absurd rfl h
  | [x], _ => rfl
  | x :: z :: r, _ => by
    have ih := joinL_snoc p y (z :: r) (by simp)
    simp only [List.cons_append] at ih ⊢
    rw [show joinL p (x :: z :: (r ++ [y])) = x.data.toList ++ (p ++ joinL p (z :: (r ++ [y]))) from rfl, ih]
    rw [show joinL p (x :: z :: r) = x.data.toList ++ (p ++ joinL p (z :: r)) from rfl]
    simp [List.append_assoc]
/-- What stands ahead of the next text: the texts so far, each with a separator behind it. -/
def headL (p : List UInt8) : List ByteArray → List UInt8
  | [] => []
  | x :: r => x.data.toList ++ (p ++ headL p r)
theorem headL_snoc (p : List UInt8) (y : ByteArray) : ∀ (l : List ByteArray), headL p (l ++ [y]) = headL p l ++ (y.data.toList ++ p)
  | [] => by simp [headL]
  | x :: r => by
    have ih := headL_snoc p y r
    simp only [List.cons_append]
    rw [show headL p (x :: (r ++ [y])) = x.data.toList ++ (p ++ headL p (r ++ [y])) from rfl, ih]
    rw [show headL p (x :: r) = x.data.toList ++ (p ++ headL p r) from rfl]
    simp [List.append_assoc]
theorem joinL_head (p : List UInt8) (y : ByteArray) : ∀ (l : List ByteArray), joinL p (l ++ [y]) = headL p l ++ y.data.toList
  | [] => rfl
  | [x] => by simp [joinL, headL]
  | x :: z :: r => by
    have ih := joinL_head p y (z :: r)
    simp only [List.cons_append] at ih ⊢
    rw [show joinL p (x :: z :: (r ++ [y])) = x.data.toList ++ (p ++ joinL p (z :: (r ++ [y]))) from rfl, ih]
    rw [show headL p (x :: z :: r) = x.data.toList ++ (p ++ headL p (z :: r)) from rfl]
    simp [List.append_assoc]
def strV (t : ByteArray) : Value := .string t
def RowT (w : World) (B : Nat) (v : Value) (ts : List ByteArray) : Prop := w.ownsRow B 9 1 v ts.length (ts.map strV)
theorem RowT.below {w w' : World} {B : Nat} {v : Value} {ts : List ByteArray} (h : RowT w B v ts) (hb : Below w.heap.size w w') : RowT w' B v ts := own_below h hb
theorem RowT.nil (w : World) (B : Nat) : RowT w B (.slice none 0 0) [] := World.ownsRow_nil _ _ _ _
theorem RowT.form {w : World} {B : Nat} {v : Value} {ts : List ByteArray} (h : RowT w B v ts) : ∃ a c, v = .slice a ts.length c := by
  rcases h.2 with ⟨rfl, h0⟩ | ⟨g, cap, cur, rfl, _⟩
  · exact ⟨none, 0, by rw [h0]⟩
  · exact ⟨_, _, rfl⟩
theorem Tryz.infoS : ∃ i, Tryz.prog.info? 9 = some i ∧ i.zero = some (.string ⟨#[]⟩) ∧ i.size = 1 ∧ i.bytes = 16 := by
  have h : (Tryz.prog.info? 9).map (fun i => (i.zero, i.size, i.bytes)) = some (some (.string ⟨#[]⟩), 1, 16) := by kernel_rfl
  obtain ⟨i, h1, h2⟩ := Option.map_eq_some_iff.1 h
  injection h2 with h2 h3
  injection h3 with h3 h4
  exact ⟨i, h1, h2, h3, h4⟩
set_option maxHeartbeats 1000000 in
theorem wpList_append_s {ops : Array Oper} {rest : List Oper} {o : Oper} {a : Act} {Q : Exit → Act → World → Prop} {W : World} (hgd : o.guard = none) (s x : Operand)
    (ho : o.op = .call { callee := .builtin .append, args := #[s, x], argTypes := #[33, 33] })
    (w : World) (B : Nat) (v : Value) (ts : List ByteArray) (hr : RowT w B v ts) (hs : a.eval s = v) (y : ByteArray)
    (hx : a.eval x = .slice (some ⟨w.heap.size, 0, none⟩) 1 1) (hW : W = w.alloc (.cells #[.string y] 9)) (hlen : ts.length ≤ 10000) (hB : B ≤ w.heap.size)
    (h : ∀ v' w', RowT w' B v' (ts ++ [y]) → Below B w w' → wpList Tryz.prog ops Q rest (a.put o.dst v') w') : wpList Tryz.prog ops Q (o :: rest) a W := by
  subst hW
  obtain ⟨i0, hi0, hz0, hz1, hz2⟩ := Tryz.infoS
  have hk : Blk (w.alloc (.cells #[.string y] 9)) w.heap.size 9 #[.string y] := Blk.new _ _ _
  have hrow0 : (w.alloc (.cells #[.string y] 9)).ownsRow B 9 1 v ts.length (ts.map strV) := (show w.ownsRow B 9 1 v ts.length (ts.map strV) from hr).alloc _
  refine wpList_append_own _ hgd s x _ ho B 9 i0 _ 1 16 Tryz.underlying33 hi0 hz0 hz1 hz2 rfl (by decide) _ ts.length _ hs hrow0 ⟨w.heap.size, 0, none⟩ 1 1 [.string y] hx (by simp) ?_ ?_ (by unfold maxLen; omega) (by omega) (by simp; omega) ?_
  · intro j u hj
    rw [Addr.add_lit, Nat.zero_add, hk.cell j, ← Array.getElem?_toList]
    exact hj
  · intro u hu
    simp at hu
    subst hu; rfl
  · intro v' w' hown' hg _
    refine h v' w' ?_ (((Below.refl B w).alloc hB _).grown hg (by simp; omega) fun k hk => (hrow0.lt k hk).1)
    unfold RowT
    rw [List.length_append, List.map_append]
    exact hown'
end Go.Proofs.YteibkaonofkcbaaGreatDoor
