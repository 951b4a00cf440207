/- append of one element of several cells to a row of one's own. -/
import Derived.Test.YtkddmiamdpbgiaaOwn
namespace Go.Proofs.Ytkddmiamdpbgiaa
open Go.RowKit
section
variable {P : Program}
theorem wpList_append_row {ops : Array Oper} {rest : List Oper} {o : Oper} {a : Act} {Q : Exit → Act → World → Prop} {W : World} (hgd : o.guard = none) (s x : Operand) (t : TypeId)
    (ho : o.op = .call { callee := .builtin .append, args := #[s, x], argTypes := #[t, t] })
    (w : World) (base : Nat) (e : TypeId) (i : TypeInfo) (z : Value) (bytes size : Nat) (ht : P.underlying t = some (.slice e)) (hi : P.info? e = some i) (hz : i.zero = some z)
    (hsize : i.size = size) (hby : i.bytes = bytes) (hzs : z.cells.size = size) (hs0 : 0 < size)
    (v : Value) (n : Nat) (xs : List Value) (hown : w.ownsRow base e size v n xs) (hs : a.eval s = v) (us : List Value) (hus : us.length = size) (hone : ∀ u ∈ us, u.oneCell' = true)
    (hx : a.eval x = .slice (some ⟨w.heap.size, 0, none⟩) 1 1) (hW : W = w.alloc (.cells us.toArray e))
    (h63 : n + 1 ≤ maxLen) (hbytes : (n + 1) * bytes ≤ 140737488355328) (hbase : base ≤ w.heap.size)
    (h : ∀ v' w', w'.ownsRow base e size v' (n + 1) (xs ++ us) → Below base w w' → w.grownBy w' v.ownBlock → wpList P ops Q rest (a.put o.dst v') w') : wpList P ops Q (o :: rest) a W := by
  subst hW
  refine wpList_append_own _ hgd s x t ho base e i z size bytes ht hi hz hsize hby hzs hs0 v n xs hs (hown.alloc _) ⟨w.heap.size, 0, none⟩ 1 1 us hx (by simp [hus]) ?_ hone h63 hbytes (by simp; omega) ?_
  · intro j y hj
    have hc := (Blk.new w e us.toArray).cell j
    have e1 : (⟨w.heap.size, 0, none⟩ : Addr).add j = ⟨w.heap.size, j, none⟩ := by
      by_cases h0 : j = 0
      · subst h0; rfl
      · simp [Addr.add, h0]
    rw [e1, hc]
    simpa using hj
  · intro v' w' hown' hg _
    exact h v' w' hown' (((Below.refl base w).alloc hbase _).grown hg (by simp; omega) fun k hk => (hown.lt k hk).1)
      ⟨hg.os, hg.tape, hg.output, Nat.le_trans (by simp) hg.size, fun k hk hne => (hg.block k (by simp; omega) hne).trans (Below.heap_alloc w _ k hk)⟩
end
end Go.Proofs.Ytkddmiamdpbgiaa
