/- Values of the package without parts; a row of them. -/
import Derived.Test.YtmpfffcdpecadaaGreatSxRow
import Derived.Test.YtmpfffcdpecadaaGreatMakeInt
namespace Go.Proofs.YtmpfffcdpecadaaGreat
open Go.RowKit
def TVal (w : World) (u : Value) : Sx → Prop
  | .none => u = .iface 91 (.int .u8 0)
  | .bool b => u = .iface 85 (.bool b)
  | .int neg l => ∃ v, u = .iface 96 v ∧ SI w 0 v (intOf2 neg l)
  | .float f => u = .iface 98 (.float .f64 f)
  | .str t => u = .iface 100 (.string t)
  | .byt t => u = .iface 101 (.string t)
theorem SI.far {w w' : World} {B g : Nat} {t : TypeId} {cs : Array Value} {v : Value} {n : Int} (h : SI w B v n) (hg : Blk w g t cs) (h1 : 138 ≠ t) (h2 : 194 ≠ t) (k : Only (· = g) w w') : SI w' B v n := by
  rcases h with h | ⟨hs, b, neg, ws, hv, hb, ⟨x, hk, ho, hr⟩, he⟩
  · exact .inl h
  · refine .inr ⟨hs, b, neg, ws, hv, hb, ⟨x, hk.only k ?_, ⟨own_only ho.1 k (fun q hq e => own_ne_blk ho.1 hg h2 q hq e), ho.2⟩, hr⟩, he⟩
    intro e
    subst e
    have := hk.symm.trans hg
    injection this with h
    injection h with _ h
    exact h1 h
theorem TVal.below {w w' : World} {u : Value} {s : Sx} (h : TVal w u s) (hb : Below w.heap.size w w') : TVal w' u s := by
  cases s with
  | int neg l => obtain ⟨v, h1, h2⟩ := h; exact ⟨v, h1, h2.below hb⟩
  | _ => exact h
theorem TVal.far {w w' : World} {g : Nat} {t : TypeId} {cs : Array Value} {u : Value} {s : Sx} (h : TVal w u s) (hg : Blk w g t cs) (h1 : 138 ≠ t) (h2 : 194 ≠ t) (k : Only (· = g) w w') : TVal w' u s := by
  cases s with
  | int neg l => obtain ⟨v, e, h⟩ := h; exact ⟨v, e, h.far hg h1 h2 k⟩
  | _ => exact h
theorem TVal.grown {w w' : World} {B' size m : Nat} {e : TypeId} {r u : Value} {xs : List Value} {s : Sx} (h : TVal w u s) (ho : w.ownsRow B' e size r m xs) (h1 : 138 ≠ e) (h2 : 194 ≠ e) (hg : w.grownBy w' r.ownBlock) : TVal w' u s := by
  cases hr : r.ownBlock with
  | none =>
    rw [hr] at hg
    exact h.below ((Below.refl w.heap.size w).grown hg (Nat.le_refl _) (by simp))
  | some g =>
    rw [hr] at hg
    obtain ⟨cs, hb⟩ := Blk.of_own (g := g) (n := 0) (c := 0) ho hr
    exact h.far hb h1 h2 ((Only.refl (· = g) w).grown hg (fun k hk => by injection hk with hk; exact .inl hk.symm))
theorem TVal.iface {w : World} {u : Value} {s : Sx} (h : TVal w u s) : ∃ t x, u = .iface t x := by
  cases s with
  | int neg l => obtain ⟨v, e, _⟩ := h; exact ⟨_, _, e⟩
  | _ => exact ⟨_, _, h⟩
theorem Tryz.infoV : (Tryz.prog.info? 49).map (fun i => (i.zero, i.size, i.bytes)) = some (some .nilIface, 1, 16) := by kernel_rfl
/-- Values of the package in a row of their own. -/
def RowT (w : World) (B : Nat) (v : Value) (ps : List (Value × Sx)) : Prop :=
  w.ownsRow B 49 1 v ps.length (ps.map (·.1)) ∧ ∀ p ∈ ps, TVal w p.1 p.2
theorem RowT.below {w w' : World} {B : Nat} {v : Value} {ps : List (Value × Sx)} (h : RowT w B v ps) (hb : Below w.heap.size w w') : RowT w' B v ps :=
  ⟨own_below h.1 hb, fun p hp => (h.2 p hp).below hb⟩
set_option maxHeartbeats 1000000 in
theorem wpList_append_t {ops : Array Oper} {rest : List Oper} {o : Oper} {a : Act} {Q : Exit → Act → World → Prop} {W : World} (hgd : o.guard = none) (s x : Operand)
    (ho : o.op = .call { callee := .builtin .append, args := #[s, x], argTypes := #[45, 45] })
    (w : World) (B : Nat) (v : Value) (ps : List (Value × Sx)) (hr : RowT w B v ps) (hs : a.eval s = v) (y : Value) (z : Sx) (hy : TVal w y z)
    (hx : a.eval x = .slice (some ⟨w.heap.size, 0, none⟩) 1 1) (hW : W = w.alloc (.cells #[y] 49)) (hlen : ps.length ≤ 1000) (hB : B ≤ w.heap.size)
    (h : ∀ v' w', RowT w' B v' (ps ++ [(y, z)]) → Below B w w' → wpList Tryz.prog ops Q rest (a.put o.dst v') w') : wpList Tryz.prog ops Q (o :: rest) a W := by
  subst hW
  obtain ⟨i0, hi0, hz0, hz1, hz2⟩ := info_parts Tryz.infoV
  have hba : Below w.heap.size w (w.alloc (.cells #[y] 49)) := (Below.refl w.heap.size w).alloc (Nat.le_refl _) _
  have hk : Blk (w.alloc (.cells #[y] 49)) w.heap.size 49 #[y] := Blk.new _ _ _
  obtain ⟨t, u, hyi⟩ := hy.iface
  refine wpList_append_own _ hgd s x _ ho B 49 i0 _ 1 16 Tryz.underlying45 hi0 hz0 hz1 hz2 rfl (by decide) _ ps.length _ hs (hr.1.alloc _) ⟨w.heap.size, 0, none⟩ 1 1 [y] hx rfl ?_ ?_ (by unfold maxLen; omega) (by omega) (by simp; omega) ?_
  · intro j q hj
    rw [Addr.add_lit, Nat.zero_add, hk.cell j]
    match j, hj with
    | 0, hj => exact hj
  · intro q hq; simp at hq; subst hq; subst hyi; rfl
  · intro v' w' hown' hg _
    have hrow0 := hr.1.alloc (.cells #[y] 49)
    refine h v' w' ⟨?_, fun q hq => ?_⟩ (((Below.refl B w).alloc hB _).grown hg (by simp; omega) fun k hk => (hrow0.lt k hk).1)
    · rw [List.length_append, List.map_append]
      simpa using hown'
    · have hq2 : TVal w q.1 q.2 := by
        rcases List.mem_append.1 hq with hq | hq
        · exact hr.2 q hq
        · simp at hq; subst hq; exact hy
      exact (hq2.below hba).grown hrow0 (by decide) (by decide) hg
end Go.Proofs.YtmpfffcdpecadaaGreat
