/- A value put behind a row of values. -/
import Derived.Test.YtmpfffcdpecadaaGreatSx
namespace Go.Proofs.YtmpfffcdpecadaaGreat
open Go.RowKit
theorem Tryz.infoVal : (Tryz.prog.info? 26).map (fun i => (i.zero, i.size, i.bytes)) = some (some (.agg #[.int .i64 0, .bool false, .slice none 0 0, .int .u64 0, .string ⟨#[]⟩, .slice none 0 0]), 6, 88) := by kernel_rfl
theorem Blk.of_own {w : World} {B size g n c : Nat} {e : TypeId} {v : Value} {m : Nat} {xs : List Value} (h : w.ownsRow B e size v m xs) (hv : v.ownBlock = some g) : ∃ cs, Blk w g e cs := by
  rcases h.2 with ⟨rfl, _⟩ | ⟨g', cap, cur, rfl, _, hh, _⟩
  · simp [Value.ownBlock] at hv
  · simp only [Value.ownBlock, Option.some.injEq] at hv
    subst hv
    exact ⟨cur, hh⟩
theorem XVal.grown {w w' : World} {B B' size m : Nat} {e : TypeId} {v r : Value} {xs : List Value} {s : Sx} (h : XVal w B v s) (ho : w.ownsRow B' e size r m xs) (he : 5 ≠ e) (hg : w.grownBy w' r.ownBlock) : XVal w' B v s := by
  cases hr : r.ownBlock with
  | none =>
    rw [hr] at hg
    exact h.below ((Below.refl w.heap.size w).grown hg (Nat.le_refl _) (by simp))
  | some g =>
    rw [hr] at hg
    obtain ⟨cs, hb⟩ := Blk.of_own (g := g) (n := 0) (c := 0) ho hr
    exact h.far hb he ((Only.refl (· = g) w).grown hg (fun k hk => by injection hk with hk; exact .inl hk.symm))
set_option maxHeartbeats 1000000 in
theorem wpList_append_val {ops : Array Oper} {rest : List Oper} {o : Oper} {a : Act} {Q : Exit → Act → World → Prop} {W : World} (hgd : o.guard = none) (s x : Operand)
    (ho : o.op = .call { callee := .builtin .append, args := #[s, x], argTypes := #[22, 22] })
    (w : World) (B : Nat) (v : Value) (ps : List (Value × Sx)) (hr : RowX w B v ps) (hs : a.eval s = v) (y : Value) (z : Sx) (cs : Array Value) (hy : XVal w 0 y z) (he : y = .agg cs)
    (hx : a.eval x = .slice (some ⟨w.heap.size, 0, none⟩) 1 1) (hW : W = w.alloc (.cells cs 26)) (hlen : ps.length ≤ 1000) (hB : B ≤ w.heap.size)
    (h : ∀ v' w', RowX w' B v' (ps ++ [(y, z)]) → Below B w w' → wpList Tryz.prog ops Q rest (a.put o.dst v') w') : wpList Tryz.prog ops Q (o :: rest) a W := by
  subst hW
  obtain ⟨i0, hi0, hz0, hz1, hz2⟩ := info_parts Tryz.infoVal
  have hba : Below w.heap.size w (w.alloc (.cells cs 26)) := (Below.refl w.heap.size w).alloc (Nat.le_refl _) _
  have hk : Blk (w.alloc (.cells cs 26)) w.heap.size 26 cs := Blk.new _ _ _
  have hc6 : c6 y = cs.toList := by rw [he]; rfl
  have h6 : (c6 y).length = 6 := hy.six
  refine wpList_append_own _ hgd s x _ ho B 26 i0 _ 6 88 Tryz.underlying22 hi0 hz0 hz1 hz2 rfl (by decide) _ ps.length _ hs (hr.1.alloc _) ⟨w.heap.size, 0, none⟩ 1 1 (c6 y) hx (by rw [h6]) ?_ ?_ (by unfold maxLen; omega) (by omega) (by simp; omega) ?_
  · intro j u hj
    rw [Addr.add_lit, Nat.zero_add, hk.cell j, ← Array.getElem?_toList, ← hc6]
    exact hj
  · obtain ⟨neg, aa, n, c, b, tx, rfl⟩ := hy.form
    intro u hu
    simp [c6, pv] at hu
    rcases hu with rfl | rfl | rfl | rfl | rfl | rfl <;> rfl
  · intro v' w' hown' hg _
    have hrow0 := hr.1.alloc (.cells cs 26)
    refine h v' w' ⟨?_, fun q hq => ?_⟩ (((Below.refl B w).alloc hB _).grown hg (by simp; omega) fun k hk => (hrow0.lt k hk).1)
    · rw [List.length_append, List.flatMap_append]
      simpa using hown'
    · have hq2 : XVal w 0 q.1 q.2 := by
        rcases List.mem_append.1 hq with hq | hq
        · exact hr.2 q hq
        · simp at hq; subst hq; exact hy
      exact (hq2.below hba).grown hrow0 (by decide) hg
end Go.Proofs.YtmpfffcdpecadaaGreat
