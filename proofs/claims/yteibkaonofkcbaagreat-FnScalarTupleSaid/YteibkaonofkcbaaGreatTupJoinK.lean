/- Joined texts: Sx, SxRow, Tv, Iter. -/
import Derived.Test.YteibkaonofkcbaaGreatTupJoinJ
import Derived.Test.YteibkaonofkcbaaGreatTupJoinD
import Derived.Test.YteibkaonofkcbaaGreatMakeInt
import Derived.Deep.RegionHeld3
import Derived.Defers
set_option linter.unusedSimpArgs false
set_option linter.unusedVariables false
namespace Go.Proofs.YteibkaonofkcbaaGreat
open Go.RowKit
theorem of_val3 {neg : Bool} {l : List Nat} : intOf2 (negOf neg l) (strip l) = intOf2 neg l := by
  unfold intOf2
  rw [natOf_strip]
  cases neg with
  | false => simp [negOf]
  | true =>
    cases hs : strip l with
    | cons x r => simp [negOf, hs]
    | nil =>
      have := natOf_strip l
      rw [hs] at this
      simp [natOf] at this
      simp [negOf, hs, ← this]
inductive Sx where
  | none
  | bool (b : Bool)
  | int (neg : Bool) (l : List Nat)
  | float (f : Nat)
  | str (t : ByteArray)
  | byt (t : ByteArray)
def kx : Sx → Int
  | .none => 0
  | .bool _ => 1
  | .int _ _ => 2
  | .float _ => 3
  | .str _ => 4
  | .byt _ => 5
def XVal (w : World) (B : Nat) (v : Value) : Sx → Prop
  | .none => v = pv 0 false none 0 0 0 ⟨#[]⟩ none 0 0
  | .bool b => v = pv 1 false none 0 0 (if b then 1 else 0) ⟨#[]⟩ none 0 0
  | .int neg l => IVal w B v neg l ∧ l.length ≤ 40
  | .float f => v = pv 3 false none 0 0 (f : Int) ⟨#[]⟩ none 0 0
  | .str t => v = pv 4 false none 0 0 0 t none 0 0 ∧ t.size ≤ 60
  | .byt t => v = pv 5 false none 0 0 0 t none 0 0 ∧ t.size ≤ 60
theorem XVal.below {w w' : World} {B : Nat} {v : Value} {s : Sx} (h : XVal w B v s) (hb : Below w.heap.size w w') : XVal w' B v s := by
  cases s with
  | int neg l => exact ⟨h.1.below hb, h.2⟩
  | _ => exact h
theorem XVal.base {w : World} {B C : Nat} {v : Value} {s : Sx} (h : XVal w B v s) (hC : C ≤ B) : XVal w C v s := by
  cases s with
  | int neg l => exact ⟨h.1.base hC, h.2⟩
  | _ => exact h
theorem XVal.form {w : World} {B : Nat} {v : Value} {s : Sx} (h : XVal w B v s) : ∃ neg a n c b tx, v = pv (kx s) neg a n c b tx none 0 0 := by
  cases s with
  | int neg l =>
    obtain ⟨⟨vs, hv, ho, _, _⟩, _⟩ := h
    obtain ⟨g, c, hvs, _, _, _, _⟩ := ho.form
    exact ⟨neg, some ⟨g, 0, Option.none⟩, l.length, c, 0, ⟨#[]⟩, by rw [hv, hvs]; rfl⟩
  | none => exact ⟨_, _, _, _, _, _, h⟩
  | bool b => exact ⟨_, _, _, _, _, _, h⟩
  | float f => exact ⟨_, _, _, _, _, _, h⟩
  | str t => exact ⟨_, _, _, _, _, _, h.1⟩
  | byt t => exact ⟨_, _, _, _, _, _, h.1⟩
/-- A value stays where only a block of another type is written. -/
theorem XVal.far {w w' : World} {B g : Nat} {t : TypeId} {cs : Array Value} {v : Value} {s : Sx} (h : XVal w B v s) (hg : Blk w g t cs) (ht : 5 ≠ t) (k : Only (· = g) w w') : XVal w' B v s := by
  cases s with
  | int neg l =>
    obtain ⟨⟨vs, hv, ho, h1, h2⟩, h3⟩ := h
    refine ⟨⟨vs, hv, ⟨own_only ho.1 k (fun q hq e => own_ne_blk ho.1 hg ht q hq e), ho.2⟩, h1, h2⟩, h3⟩
  | _ => exact h
/-- A value's cells. -/
def c6 : Value → List Value
  | .agg cs => cs.toList
  | _ => []
/-- Values in a row of their own. -/
def RowX (w : World) (B : Nat) (v : Value) (ps : List (Value × Sx)) : Prop :=
  w.ownsRow B 33 6 v ps.length (ps.flatMap fun p => c6 p.1) ∧ ∀ p ∈ ps, XVal w 0 p.1 p.2
theorem RowX.below {w w' : World} {B : Nat} {v : Value} {ps : List (Value × Sx)} (h : RowX w B v ps) (hb : Below w.heap.size w w') : RowX w' B v ps :=
  ⟨own_below h.1 hb, fun p hp => (h.2 p hp).below hb⟩
theorem RowX.nil (w : World) (B : Nat) : RowX w B (.slice none 0 0) [] := ⟨World.ownsRow_nil _ _ _ _, fun p hp => by simp at hp⟩
theorem flat_six {ps : List (Value × Sx)} (h : ∀ p ∈ ps, (c6 p.1).length = 6) : ∀ (i j : Nat) (hi : i < ps.length), j < 6 → (ps.flatMap fun p => c6 p.1)[i * 6 + j]? = (c6 (ps[i]'hi).1)[j]? := by
  induction ps with
  | nil => intro i j hi; simp at hi
  | cons p r ih =>
    intro i j hi hj
    have hp := h p (by simp)
    rw [List.flatMap_cons]
    cases i with
    | zero => rw [List.getElem?_append_left (by omega)]; simp
    | succ i =>
      rw [List.getElem?_append_right (by omega), hp, show (i + 1) * 6 + j - 6 = i * 6 + j by omega]
      exact ih (fun q hq => h q (by simp [hq])) i j (by simpa using hi) hj
theorem XVal.six {w : World} {B : Nat} {v : Value} {s : Sx} (h : XVal w B v s) : (c6 v).length = 6 := by
  obtain ⟨_, _, _, _, _, _, rfl⟩ := h.form
  rfl
/-- An element's cells. -/
theorem RowX.at {w : World} {B : Nat} {v : Value} {ps : List (Value × Sx)} (h : RowX w B v ps) (i : Nat) (hi : i < ps.length) :
    ∃ g cap neg a n c b tx, v = .slice (some ⟨g, 0, none⟩) ps.length cap ∧ g < w.heap.size ∧ (ps[i]'hi).1 = pv (kx (ps[i]'hi).2) neg a n c b tx none 0 0 ∧
      w.cell? ⟨g, i * 6, none⟩ = some (.int .i64 (kx (ps[i]'hi).2)) ∧ w.cell? ⟨g, i * 6 + 1, none⟩ = some (.bool neg) ∧ w.cell? ⟨g, i * 6 + 2, none⟩ = some (.slice a n c) ∧ w.cell? ⟨g, i * 6 + 3, none⟩ = some (.int .u64 b) ∧ w.cell? ⟨g, i * 6 + 4, none⟩ = some (.string tx) ∧ w.cell? ⟨g, i * 6 + 5, none⟩ = some (.slice none 0 0) := by
  obtain ⟨neg, a, n, c, b, tx, he⟩ := (h.2 _ (List.getElem_mem hi)).form
  rcases h.1.2 with ⟨_, h0⟩ | ⟨g, cap, cur, rfl, hb, hh, _⟩
  · omega
  · have hc : ∀ k u, (ps.flatMap fun p => c6 p.1)[k]? = some u → w.cell? ⟨g, k, none⟩ = some u := fun k u hk => by
      have := h.1.cells (g := g) rfl k u hk
      rw [Addr.add_lit] at this
      simpa using this
    have hf := fun j => flat_six (fun p hp => (h.2 p hp).six) i j hi
    simp only [he] at hf
    exact ⟨g, cap, neg, a, n, c, b, tx, rfl, (Array.getElem?_eq_some_iff.1 hh).1, he, hc _ _ (hf 0 (by omega)), hc _ _ (hf 1 (by omega)), hc _ _ (hf 2 (by omega)), hc _ _ (hf 3 (by omega)), hc _ _ (hf 4 (by omega)), hc _ _ (hf 5 (by omega))⟩
end Go.Proofs.YteibkaonofkcbaaGreat
namespace Go.Proofs.YteibkaonofkcbaaGreat
open Go.RowKit
theorem Tryz.infoVal : (Tryz.prog.info? 33).map (fun i => (i.zero, i.size, i.bytes)) = some (some (.agg #[.int .i64 0, .bool false, .slice none 0 0, .int .u64 0, .string ⟨#[]⟩, .slice none 0 0]), 6, 88) := by kernel_rfl
theorem Blk.of_own {w : World} {B size g n c : Nat} {e : TypeId} {v : Value} {m : Nat} {xs : List Value} (h : w.ownsRow B e size v m xs) (hv : v.ownBlock = some g) : ∃ cs, Blk w g e cs := by
  rcases h.2 with ⟨rfl, _⟩ | ⟨g', cap, cur, rfl, _, hh, _⟩
  · simp [Value.ownBlock] at hv
  · simp only [Value.ownBlock, Option.some.injEq] at hv
    subst hv
    exact ⟨cur, hh⟩
theorem XVal.grown {w w' : World} {B B' size m : Nat} {e : TypeId} {v r : Value} {xs : List Value} {s : Sx} (h : XVal w B v s) (ho : w.ownsRow B' e size r m xs) (he : 5 ≠ e) (hg : w.grownBy w' r.ownBlock) : XVal w' B v s := by
  cases hr : r.ownBlock with
  | none =>
    rw [hr] at hg
    exact h.below ((Below.refl w.heap.size w).grown hg (Nat.le_refl _) (by simp))
  | some g =>
    rw [hr] at hg
    obtain ⟨cs, hb⟩ := Blk.of_own (g := g) (n := 0) (c := 0) ho hr
    exact h.far hb he ((Only.refl (· = g) w).grown hg (fun k hk => by injection hk with hk; exact .inl hk.symm))
set_option maxHeartbeats 1000000 in
theorem wpList_append_val {ops : Array Oper} {rest : List Oper} {o : Oper} {a : Act} {Q : Exit → Act → World → Prop} {W : World} (hgd : o.guard = none) (s x : Operand)
    (ho : o.op = .call { callee := .builtin .append, args := #[s, x], argTypes := #[22, 22] })
    (w : World) (B : Nat) (v : Value) (ps : List (Value × Sx)) (hr : RowX w B v ps) (hs : a.eval s = v) (y : Value) (z : Sx) (cs : Array Value) (hy : XVal w 0 y z) (he : y = .agg cs)
    (hx : a.eval x = .slice (some ⟨w.heap.size, 0, none⟩) 1 1) (hW : W = w.alloc (.cells cs 33)) (hlen : ps.length ≤ 1000) (hB : B ≤ w.heap.size)
    (h : ∀ v' w', RowX w' B v' (ps ++ [(y, z)]) → Below B w w' → wpList Tryz.prog ops Q rest (a.put o.dst v') w') : wpList Tryz.prog ops Q (o :: rest) a W := by
  subst hW
  obtain ⟨i0, hi0, hz0, hz1, hz2⟩ := info_parts Tryz.infoVal
  have hba : Below w.heap.size w (w.alloc (.cells cs 33)) := (Below.refl w.heap.size w).alloc (Nat.le_refl _) _
  have hk : Blk (w.alloc (.cells cs 33)) w.heap.size 33 cs := Blk.new _ _ _
  have hc6 : c6 y = cs.toList := by rw [he]; rfl
  have h6 : (c6 y).length = 6 := hy.six
  refine wpList_append_own _ hgd s x _ ho B 33 i0 _ 6 88 Tryz.underlying22 hi0 hz0 hz1 hz2 rfl (by decide) _ ps.length _ hs (hr.1.alloc _) ⟨w.heap.size, 0, none⟩ 1 1 (c6 y) hx (by rw [h6]) ?_ ?_ (by unfold maxLen; omega) (by omega) (by simp; omega) ?_
  · intro j u hj
    rw [Addr.add_lit, Nat.zero_add, hk.cell j, ← Array.getElem?_toList, ← hc6]
    exact hj
  · obtain ⟨neg, aa, n, c, b, tx, rfl⟩ := hy.form
    intro u hu
    simp [c6, pv] at hu
    rcases hu with rfl | rfl | rfl | rfl | rfl | rfl <;> rfl
  · intro v' w' hown' hg _
    have hrow0 := hr.1.alloc (.cells cs 33)
    refine h v' w' ⟨?_, fun q hq => ?_⟩ (((Below.refl B w).alloc hB _).grown hg (by simp; omega) fun k hk => (hrow0.lt k hk).1)
    · rw [List.length_append, List.flatMap_append]
      simpa using hown'
    · have hq2 : XVal w 0 q.1 q.2 := by
        rcases List.mem_append.1 hq with hq | hq
        · exact hr.2 q hq
        · simp at hq; subst hq; exact hy
      exact (hq2.below hba).grown hrow0 (by decide) hg
end Go.Proofs.YteibkaonofkcbaaGreat
namespace Go.Proofs.YteibkaonofkcbaaGreat
open Go.RowKit
def TVal (w : World) (u : Value) : Sx → Prop
  | .none => u = .iface 110 (.int .u8 0)
  | .bool b => u = .iface 97 (.bool b)
  | .int neg l => ∃ v, u = .iface 115 v ∧ SI w 0 v (intOf2 neg l)
  | .float f => u = .iface 117 (.float .f64 f)
  | .str t => u = .iface 119 (.string t)
  | .byt t => u = .iface 120 (.string t)
theorem SI.far {w w' : World} {B g : Nat} {t : TypeId} {cs : Array Value} {v : Value} {n : Int} (h : SI w B v n) (hg : Blk w g t cs) (h1 : 136 ≠ t) (h2 : 158 ≠ t) (k : Only (· = g) w w') : SI w' B v n := by
  rcases h with h | ⟨hs, b, neg, ws, hv, hb, ⟨x, hk, ho, hr⟩, he⟩
  · exact .inl h
  · refine .inr ⟨hs, b, neg, ws, hv, hb, ⟨x, hk.only k ?_, ⟨own_only ho.1 k (fun q hq e => own_ne_blk ho.1 hg h2 q hq e), ho.2⟩, hr⟩, he⟩
    intro e
    subst e
    have := hk.symm.trans hg
    injection this with h
    injection h with _ h
    exact h1 h
theorem TVal.below {w w' : World} {u : Value} {s : Sx} (h : TVal w u s) (hb : Below w.heap.size w w') : TVal w' u s := by
  cases s with
  | int neg l => obtain ⟨v, h1, h2⟩ := h; exact ⟨v, h1, h2.below hb⟩
  | _ => exact h
theorem TVal.far {w w' : World} {g : Nat} {t : TypeId} {cs : Array Value} {u : Value} {s : Sx} (h : TVal w u s) (hg : Blk w g t cs) (h1 : 136 ≠ t) (h2 : 158 ≠ t) (k : Only (· = g) w w') : TVal w' u s := by
  cases s with
  | int neg l => obtain ⟨v, e, h⟩ := h; exact ⟨v, e, h.far hg h1 h2 k⟩
  | _ => exact h
theorem TVal.grown {w w' : World} {B' size m : Nat} {e : TypeId} {r u : Value} {xs : List Value} {s : Sx} (h : TVal w u s) (ho : w.ownsRow B' e size r m xs) (h1 : 136 ≠ e) (h2 : 158 ≠ e) (hg : w.grownBy w' r.ownBlock) : TVal w' u s := by
  cases hr : r.ownBlock with
  | none =>
    rw [hr] at hg
    exact h.below ((Below.refl w.heap.size w).grown hg (Nat.le_refl _) (by simp))
  | some g =>
    rw [hr] at hg
    obtain ⟨cs, hb⟩ := Blk.of_own (g := g) (n := 0) (c := 0) ho hr
    exact h.far hb h1 h2 ((Only.refl (· = g) w).grown hg (fun k hk => by injection hk with hk; exact .inl hk.symm))
theorem TVal.iface {w : World} {u : Value} {s : Sx} (h : TVal w u s) : ∃ t x, u = .iface t x := by
  cases s with
  | int neg l => obtain ⟨v, e, _⟩ := h; exact ⟨_, _, e⟩
  | _ => exact ⟨_, _, h⟩
theorem Tryz.infoV : (Tryz.prog.info? 87).map (fun i => (i.zero, i.size, i.bytes)) = some (some .nilIface, 1, 16) := by kernel_rfl
/-- Values of the package in a row of their own. -/
def RowT (w : World) (B : Nat) (v : Value) (ps : List (Value × Sx)) : Prop :=
  w.ownsRow B 87 1 v ps.length (ps.map (·.1)) ∧ ∀ p ∈ ps, TVal w p.1 p.2
theorem RowT.below {w w' : World} {B : Nat} {v : Value} {ps : List (Value × Sx)} (h : RowT w B v ps) (hb : Below w.heap.size w w') : RowT w' B v ps :=
  ⟨own_below h.1 hb, fun p hp => (h.2 p hp).below hb⟩
set_option maxHeartbeats 1000000 in
theorem wpList_append_t {ops : Array Oper} {rest : List Oper} {o : Oper} {a : Act} {Q : Exit → Act → World → Prop} {W : World} (hgd : o.guard = none) (s x : Operand)
    (ho : o.op = .call { callee := .builtin .append, args := #[s, x], argTypes := #[56, 56] })
    (w : World) (B : Nat) (v : Value) (ps : List (Value × Sx)) (hr : RowT w B v ps) (hs : a.eval s = v) (y : Value) (z : Sx) (hy : TVal w y z)
    (hx : a.eval x = .slice (some ⟨w.heap.size, 0, none⟩) 1 1) (hW : W = w.alloc (.cells #[y] 87)) (hlen : ps.length ≤ 1000) (hB : B ≤ w.heap.size)
    (h : ∀ v' w', RowT w' B v' (ps ++ [(y, z)]) → Below B w w' → wpList Tryz.prog ops Q rest (a.put o.dst v') w') : wpList Tryz.prog ops Q (o :: rest) a W := by
  subst hW
  obtain ⟨i0, hi0, hz0, hz1, hz2⟩ := info_parts Tryz.infoV
  have hba : Below w.heap.size w (w.alloc (.cells #[y] 87)) := (Below.refl w.heap.size w).alloc (Nat.le_refl _) _
  have hk : Blk (w.alloc (.cells #[y] 87)) w.heap.size 87 #[y] := Blk.new _ _ _
  obtain ⟨t, u, hyi⟩ := hy.iface
  refine wpList_append_own _ hgd s x _ ho B 87 i0 _ 1 16 Tryz.underlying56 hi0 hz0 hz1 hz2 rfl (by decide) _ ps.length _ hs (hr.1.alloc _) ⟨w.heap.size, 0, none⟩ 1 1 [y] hx rfl ?_ ?_ (by unfold maxLen; omega) (by omega) (by simp; omega) ?_
  · intro j q hj
    rw [Addr.add_lit, Nat.zero_add, hk.cell j]
    match j, hj with
    | 0, hj => exact hj
  · intro q hq; simp at hq; subst hq; subst hyi; rfl
  · intro v' w' hown' hg _
    have hrow0 := hr.1.alloc (.cells #[y] 87)
    refine h v' w' ⟨?_, fun q hq => ?_⟩ (((Below.refl B w).alloc hB _).grown hg (by simp; omega) fun k hk => (hrow0.lt k hk).1)
    · rw [List.length_append, List.map_append]
      simpa using hown'
    · have hq2 : TVal w q.1 q.2 := by
        rcases List.mem_append.1 hq with hq | hq
        · exact hr.2 q hq
        · simp at hq; subst hq; exact hy
      exact (hq2.below hba).grown hrow0 (by decide) (by decide) hg
end Go.Proofs.YteibkaonofkcbaaGreat
namespace Go.Proofs.YteibkaonofkcbaaGreat
open Go.RowKit
attribute [local go_sem ↓] Go.wp_at_zero Go.wp_at_succ
theorem blk_one {w : World} {g : Nat} {t : TypeId} {a : Value} (h : Blk w g t #[a]) : w.cell? ⟨g, 0, none⟩ = some a ∧ w.frozen? ⟨g, 0, none⟩ = false := ⟨(h.cell 0).trans rfl, h.frozen 0⟩
theorem blk_three {w : World} {g : Nat} {t : TypeId} {a b c : Value} (h : Blk w g t #[a, b, c]) : w.cell? ⟨g, 0, none⟩ = some a ∧ w.cell? ⟨g, 1, none⟩ = some b ∧ w.cell? ⟨g, 2, none⟩ = some c ∧ w.frozen? ⟨g, 0, none⟩ = false ∧ w.frozen? ⟨g, 1, none⟩ = false ∧ w.frozen? ⟨g, 2, none⟩ = false := ⟨(h.cell 0).trans rfl, (h.cell 1).trans rfl, (h.cell 2).trans rfl, h.frozen 0, h.frozen 1, h.frozen 2⟩
end Go.Proofs.YteibkaonofkcbaaGreat
