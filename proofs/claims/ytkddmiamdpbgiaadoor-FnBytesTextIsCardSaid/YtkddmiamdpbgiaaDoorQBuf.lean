/- A buffer of bytes that grows beside an array of four bytes, and what is appended to it; utf8.EncodeRune at this program. -/
import Derived.Test.YtkddmiamdpbgiaaDoorValid
import Derived.Test.YtkddmiamdpbgiaaDoorOwn2
import Derived.Lib.QuoteLoop
import Derived.Lib.QuoteHex
import Derived.Lib.QuoteBits
import Derived.Shelf.Spec.EncodeRune
namespace Go.Proofs.YtkddmiamdpbgiaaDoor
open Go.RowKit Go.Shelf
/-- v owns the bytes xs above block b, an array of four cells; what lies below is as in w0. -/
def QB (w0 : World) (b : Nat) (v : Value) (xs : List Int) (w : World) : Prop :=
  w.ownsRow (b + 1) 5 1 v xs.length (Lib.intCells xs) ∧ Below b w0 w ∧ ∃ cs, Blk w b 74 cs ∧ cs.size = 4
section
variable {w0 w w' : World} {b : Nat} {v : Value} {xs : List Int}
theorem QB.lt (h : QB w0 b v xs w) : b + 1 ≤ w.heap.size := by
  obtain ⟨_, _, cs, h1, _⟩ := h
  exact h1.lt
theorem QB.below (h : QB w0 b v xs w) (hb : Below w.heap.size w w') : QB w0 b v xs w' := by
  have hl := h.lt
  obtain ⟨h1, h2, cs, h3, h4⟩ := h
  exact ⟨own_below h1 hb, h2.trans (hb.mono (by omega)), cs, h3.below hb h3.lt, h4⟩
theorem QB.more {ys : List Int} (h : QB w0 b v xs w) {v' : Value} (h1 : w'.ownsRow (b + 1) 5 1 v' (xs.length + ys.length) (Lib.intCells xs ++ Lib.intCells ys)) (hg : w.grownBy w' v.ownBlock) : QB w0 b v' (xs ++ ys) w' := by
  have hl := h.lt
  obtain ⟨g1, g2, cs, g3, g4⟩ := h
  refine ⟨?_, g2.grown hg (by omega) fun k hk => ?_, cs, g3.grown hg fun e => ?_, g4⟩
  · simpa [Lib.intCells] using h1
  · have := (g1.lt k hk).1; omega
  · have := (g1.lt b e.symm).1; omega
/-- append(buf, c). -/
theorem wpList_qb_byte {ops : Array Oper} {rest : List Oper} {o : Oper} {a : Act} {Q : Exit → Act → World → Prop} {W : World} (hgd : o.guard = none) (s x : Operand)
    (ho : o.op = .call { callee := .builtin .append, args := #[s, x], argTypes := #[33, 33] })
    (c : Int) (hx : a.eval x = .slice (some ⟨w.heap.size, 0, none⟩) 1 1) (hW : W = w.alloc (.cells #[.int .u8 c] 5)) (hs : a.eval s = v) (hq : QB w0 b v xs w) (hlen : xs.length + 10 ≤ 140737488355328)
    (h : ∀ v' w', QB w0 b v' (xs ++ [c]) w' → wpList Tryd.prog ops Q rest (a.put o.dst v') w') : wpList Tryd.prog ops Q (o :: rest) a W := by
  obtain ⟨i0, hi, hz0, hz1, hz2⟩ := info_parts Tryd.infoByte
  refine wpList_append_one hgd s x 33 ho w (b + 1) 5 i0 _ 1 Tryd.underlying33 hi hz0 hz1 hz2 rfl v _ _ hq.1 hs (.int .u8 c) rfl hx hW (by unfold maxLen; omega) (by omega) hq.lt ?_
  intro v' w' h1 _ hg
  exact h v' w' (hq.more (ys := [c]) h1 hg)
/-- append(buf, text...). -/
theorem wpList_qb_text {ops : Array Oper} {rest : List Oper} {o : Oper} {a : Act} {Q : Exit → Act → World → Prop} (hgd : o.guard = none) (s x : Operand)
    (ho : o.op = .call { callee := .builtin .append, args := #[s, x], argTypes := #[33, 9] })
    (t : ByteArray) (ys : List Int) (hx : a.eval x = .string t) (hy : Lib.strCells t = Lib.intCells ys) (hyl : t.size = ys.length) (hs : a.eval s = v) (hq : QB w0 b v xs w) (hlen : xs.length + t.size ≤ 140737488355328)
    (h : ∀ v' w', QB w0 b v' (xs ++ ys) w' → wpList Tryd.prog ops Q rest (a.put o.dst v') w') : wpList Tryd.prog ops Q (o :: rest) a w := by
  obtain ⟨i0, hi, hz0, hz1, hz2⟩ := info_parts Tryd.infoByte
  refine Lib.wpList_append_own_string _ hgd s x 33 9 ho (b + 1) 5 i0 Tryd.underlying33 Tryd.underlying9 hi hz0 hz1 hz2 v _ _ hs hq.1 t hx (by unfold maxLen; omega) (by omega) hq.lt ?_
  intro v' w' h1 hg _
  rw [hy, hyl] at h1
  exact h v' w' (hq.more h1 hg)
/-- append(buf, tmp[:m]...), the first cells of the array being known. -/
theorem wpList_qb_arr {ops : Array Oper} {rest : List Oper} {o : Oper} {a : Act} {Q : Exit → Act → World → Prop} (hgd : o.guard = none) (s x : Operand)
    (ho : o.op = .call { callee := .builtin .append, args := #[s, x], argTypes := #[33, 33] })
    (ys : List Int) (m c : Nat) (hm : ys.length = m) (hx : a.eval x = .slice (some ⟨b, 0, none⟩) m c) (hc : ∀ j u, (Lib.intCells ys)[j]? = some u → w.cell? ⟨b, j, none⟩ = some u) (hs : a.eval s = v) (hq : QB w0 b v xs w) (hlen : xs.length + m ≤ 140737488355328)
    (h : ∀ v' w', QB w0 b v' (xs ++ ys) w' → wpList Tryd.prog ops Q rest (a.put o.dst v') w') : wpList Tryd.prog ops Q (o :: rest) a w := by
  obtain ⟨i0, hi, hz0, hz1, hz2⟩ := info_parts Tryd.infoByte
  refine wpList_append_own _ hgd s x 33 ho (b + 1) 5 i0 _ 1 1 Tryd.underlying33 hi hz0 hz1 hz2 rfl (by decide) v _ _ hs hq.1 ⟨b, 0, none⟩ m c (Lib.intCells ys) hx (by simp [Lib.intCells, hm]) ?_ ?_ (by unfold maxLen; omega) (by omega) hq.lt ?_
  · intro j u hj
    have e : (⟨b, 0, none⟩ : Addr).add j = ⟨b, j, none⟩ := by
      unfold Addr.add
      split <;> simp_all
    rw [e]
    exact hc j u hj
  · intro u hu
    simp only [Lib.intCells, List.mem_map] at hu
    obtain ⟨x, _, rfl⟩ := hu
    rfl
  · intro v' w' h1 hg _
    subst hm
    exact h v' w' (hq.more h1 hg)
theorem Only.setCells (b : Nat) : ∀ (vs : List Value) (o : Nat) (w w' : World), Only (· = b) w w' → Only (· = b) w (w'.setCells b o vs)
  | [], _, _, _, h => h
  | u :: r, o, w, w', h => by
    rw [World.setCells]
    exact Only.setCells b r (o + 1) w _ (h.setCell (p := ⟨b, o, none⟩) (.inl rfl) u)
theorem Blk.setCells {t : TypeId} (b : Nat) : ∀ (vs : List Value) (o : Nat) (w : World) (cs : Array Value), Blk w b t cs → ∃ cs', Blk (w.setCells b o vs) b t cs' ∧ cs'.size = cs.size
  | [], _, _, cs, h => ⟨cs, h, rfl⟩
  | u :: r, o, w, cs, h => by
    rw [World.setCells]
    obtain ⟨cs', h1, h2⟩ := Blk.setCells b r (o + 1) _ _ (h.put o u)
    exact ⟨cs', h1, by simpa using h2⟩
theorem QB.setCells (h : QB w0 b v xs w) (vs : List Value) : QB w0 b v xs (w.setCells b 0 vs) := by
  have hl := h.lt
  obtain ⟨g1, g2, cs, g3, g4⟩ := h
  have hO := Only.setCells b vs 0 w w (Only.refl _ w)
  obtain ⟨cs', k1, k2⟩ := g3.setCells b vs 0
  exact ⟨own_only g1 hO fun g hg e => by have := (g1.lt g hg).1; omega, g2.trans (hO.to_below (by omega) fun k _ e => by omega), cs', k1, by omega⟩
end
end Go.Proofs.YtkddmiamdpbgiaaDoor
