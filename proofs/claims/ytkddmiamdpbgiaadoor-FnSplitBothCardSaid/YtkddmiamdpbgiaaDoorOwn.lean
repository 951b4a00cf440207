/- Small laws over any program: a slice of bytes that the call itself made, grown one element at a time; its text. No program in sight. -/
import Derived.WalkKit
import Derived.Lib.Hide
import Derived.Lib.Strings
import Derived.Lib.BufferRead
import Derived.Laws.IdiomStrings
namespace Go.Proofs.YtkddmiamdpbgiaaDoor
open Go.RowKit
/-- The slice value v owns the bytes l. -/
def OwnB (E : TypeId) (w : World) (B : Nat) (v : Value) (l : List UInt8) : Prop := w.ownsRow B E 1 v l.length (l.map fun c => Value.int .u8 (c.toNat : Int))
section
variable {P : Program} {E : TypeId}
theorem OwnB.nil (w : World) (B : Nat) : OwnB E w B (.slice none 0 0) [] := World.ownsRow_nil _ _ _ _
/-- out = append(out, x), x one cell that the operation ahead has laid in a block of its own. -/
theorem wpList_append_one {ops : Array Oper} {rest : List Oper} {o : Oper} {a : Act} {Q : Exit → Act → World → Prop} {W : World} (hgd : o.guard = none) (s x : Operand) (t : TypeId)
    (ho : o.op = .call { callee := .builtin .append, args := #[s, x], argTypes := #[t, t] })
    (w : World) (base : Nat) (e : TypeId) (i : TypeInfo) (z : Value) (bytes : Nat) (ht : P.underlying t = some (.slice e)) (hi : P.info? e = some i) (hz : i.zero = some z)
    (hsize : i.size = 1) (hby : i.bytes = bytes) (hzs : z.cells.size = 1)
    (v : Value) (n : Nat) (xs : List Value) (hown : w.ownsRow base e 1 v n xs) (hs : a.eval s = v) (u : Value) (hu : u.oneCell' = true)
    (hx : a.eval x = .slice (some ⟨w.heap.size, 0, none⟩) 1 1) (hW : W = w.alloc (.cells #[u] e))
    (h63 : n + 1 ≤ maxLen) (hbytes : (n + 1) * bytes ≤ 140737488355328) (hbase : base ≤ w.heap.size)
    (h : ∀ v' w', w'.ownsRow base e 1 v' (n + 1) (xs ++ [u]) → Below base w w' → w.grownBy w' v.ownBlock → wpList P ops Q rest (a.put o.dst v') w') : wpList P ops Q (o :: rest) a W := by
  subst hW
  refine wpList_append_own _ hgd s x t ho base e i z 1 bytes ht hi hz hsize hby hzs (by decide) v n xs hs (hown.alloc _) ⟨w.heap.size, 0, none⟩ 1 1 [u] hx rfl ?_ ?_ h63 hbytes (by simp; omega) ?_
  · intro j y hj
    match j, hj with
    | 0, hj => simp at hj; subst hj; simp [Addr.add]
  · intro y hy; simp at hy; subst hy; exact hu
  · intro v' w' hown' hg _
    exact h v' w' hown' (((Below.refl base w).alloc hbase _).grown hg (by simp; omega) fun k hk => (hown.lt k hk).1)
      ⟨hg.os, hg.tape, hg.output, Nat.le_trans (by simp) hg.size, fun k hk hne => (hg.block k (by simp; omega) hne).trans (Below.heap_alloc w _ k hk)⟩
theorem OwnB.text {w : World} {B : Nat} {v : Value} {l : List UInt8} (h : OwnB E w B v l) (src dst : TypeId) (hs : P.underlying src = some (.slice E)) (he : P.underlying E = some (.int .u8)) (hd : P.underlying dst = some .string) :
    (convert src dst v).run P w = .ok (.string ⟨l.toArray⟩) w := by
  rcases h.2 with ⟨rfl, h0⟩ | ⟨g, cap, cur, rfl, _, hh, _, _, _, htk⟩
  · have : l = [] := List.eq_nil_of_length_eq_zero h0
    subst this
    exact Lib.run_convert_nil_bytes w src dst E 0 hs he hd
  · refine run_convert_bytes_back w src dst E _ cap l hs he hd fun j hj => ?_
    have hc := h.cells (g := g) rfl j (.int .u8 (l[j].toNat : Int)) (by simp [hj])
    exact hc
theorem OwnB.more {w : World} {B : Nat} {v : Value} {l : List UInt8} {c : UInt8} (h : w.ownsRow B E 1 v (l.length + 1) (l.map (fun c => Value.int .u8 (c.toNat : Int)) ++ [.int .u8 (c.toNat : Int)])) : OwnB E w B v (l ++ [c]) := by
  unfold OwnB
  simpa using h
/-- What is owned stays owned where nothing that was there has turned. -/
theorem own_below {w w' : World} {base : Nat} {e : TypeId} {size : Nat} {v : Value} {n : Nat} {xs : List Value} (h : w.ownsRow base e size v n xs) (hb : Below w.heap.size w w') : w'.ownsRow base e size v n xs := by
  refine h.kept (row := none) ⟨hb.os, hb.tape, hb.output, hb.size, fun i hi _ => hb.block i hi⟩ ?_
  cases hv : v.ownBlock <;> simp
end
end Go.Proofs.YtkddmiamdpbgiaaDoor
