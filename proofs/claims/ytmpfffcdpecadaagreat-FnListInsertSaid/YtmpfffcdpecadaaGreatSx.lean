/- Values without parts, of six kinds. -/
import Derived.Test.YtmpfffcdpecadaaGreatNum
import Derived.Test.YtmpfffcdpecadaaGreatIntLen
namespace Go.Proofs.YtmpfffcdpecadaaGreat
open Go.RowKit
theorem of_val3 {neg : Bool} {l : List Nat} : intOf2 (negOf neg l) (strip l) = intOf2 neg l := by
  unfold intOf2
  rw [natOf_strip]
  cases neg with
  | false => simp [negOf]
  | true =>
    cases hs : strip l with
    | cons x r => simp [negOf, hs]
    | nil =>
      have := natOf_strip l
      rw [hs] at this
      simp [natOf] at this
      simp [negOf, hs, ← this]
inductive Sx where
  | none
  | bool (b : Bool)
  | int (neg : Bool) (l : List Nat)
  | float (f : Nat)
  | str (t : ByteArray)
  | byt (t : ByteArray)
def kx : Sx → Int
  | .none => 0
  | .bool _ => 1
  | .int _ _ => 2
  | .float _ => 3
  | .str _ => 4
  | .byt _ => 5
def XVal (w : World) (B : Nat) (v : Value) : Sx → Prop
  | .none => v = pv 0 false none 0 0 0 ⟨#[]⟩ none 0 0
  | .bool b => v = pv 1 false none 0 0 (if b then 1 else 0) ⟨#[]⟩ none 0 0
  | .int neg l => IVal w B v neg l ∧ l.length ≤ 40
  | .float f => v = pv 3 false none 0 0 (f : Int) ⟨#[]⟩ none 0 0
  | .str t => v = pv 4 false none 0 0 0 t none 0 0 ∧ t.size ≤ 60
  | .byt t => v = pv 5 false none 0 0 0 t none 0 0 ∧ t.size ≤ 60
theorem XVal.below {w w' : World} {B : Nat} {v : Value} {s : Sx} (h : XVal w B v s) (hb : Below w.heap.size w w') : XVal w' B v s := by
  cases s with
  | int neg l => exact ⟨h.1.below hb, h.2⟩
  | _ => exact h
theorem XVal.base {w : World} {B C : Nat} {v : Value} {s : Sx} (h : XVal w B v s) (hC : C ≤ B) : XVal w C v s := by
  cases s with
  | int neg l => exact ⟨h.1.base hC, h.2⟩
  | _ => exact h
theorem XVal.form {w : World} {B : Nat} {v : Value} {s : Sx} (h : XVal w B v s) : ∃ neg a n c b tx, v = pv (kx s) neg a n c b tx none 0 0 := by
  cases s with
  | int neg l =>
    obtain ⟨⟨vs, hv, ho, _, _⟩, _⟩ := h
    obtain ⟨g, c, hvs, _, _, _, _⟩ := ho.form
    exact ⟨neg, some ⟨g, 0, Option.none⟩, l.length, c, 0, ⟨#[]⟩, by rw [hv, hvs]; rfl⟩
  | none => exact ⟨_, _, _, _, _, _, h⟩
  | bool b => exact ⟨_, _, _, _, _, _, h⟩
  | float f => exact ⟨_, _, _, _, _, _, h⟩
  | str t => exact ⟨_, _, _, _, _, _, h.1⟩
  | byt t => exact ⟨_, _, _, _, _, _, h.1⟩
/-- A value stays where only a block of another type is written. -/
theorem XVal.far {w w' : World} {B g : Nat} {t : TypeId} {cs : Array Value} {v : Value} {s : Sx} (h : XVal w B v s) (hg : Blk w g t cs) (ht : 5 ≠ t) (k : Only (· = g) w w') : XVal w' B v s := by
  cases s with
  | int neg l =>
    obtain ⟨⟨vs, hv, ho, h1, h2⟩, h3⟩ := h
    refine ⟨⟨vs, hv, ⟨own_only ho.1 k (fun q hq e => own_ne_blk ho.1 hg ht q hq e), ho.2⟩, h1, h2⟩, h3⟩
  | _ => exact h
/-- A value's cells. -/
def c6 : Value → List Value
  | .agg cs => cs.toList
  | _ => []
/-- Values in a row of their own. -/
def RowX (w : World) (B : Nat) (v : Value) (ps : List (Value × Sx)) : Prop :=
  w.ownsRow B 26 6 v ps.length (ps.flatMap fun p => c6 p.1) ∧ ∀ p ∈ ps, XVal w 0 p.1 p.2
theorem RowX.below {w w' : World} {B : Nat} {v : Value} {ps : List (Value × Sx)} (h : RowX w B v ps) (hb : Below w.heap.size w w') : RowX w' B v ps :=
  ⟨own_below h.1 hb, fun p hp => (h.2 p hp).below hb⟩
theorem RowX.nil (w : World) (B : Nat) : RowX w B (.slice none 0 0) [] := ⟨World.ownsRow_nil _ _ _ _, fun p hp => by simp at hp⟩
theorem flat_six {ps : List (Value × Sx)} (h : ∀ p ∈ ps, (c6 p.1).length = 6) : ∀ (i j : Nat) (hi : i < ps.length), j < 6 → (ps.flatMap fun p => c6 p.1)[i * 6 + j]? = (c6 (ps[i]'hi).1)[j]? := by
  induction ps with
  | nil => intro i j hi; simp at hi
  | cons p r ih =>
    intro i j hi hj
    have hp := h p (by simp)
    rw [List.flatMap_cons]
    cases i with
    | zero => rw [List.getElem?_append_left (by omega)]; simp
    | succ i =>
      rw [List.getElem?_append_right (by omega), hp, show (i + 1) * 6 + j - 6 = i * 6 + j by omega]
      exact ih (fun q hq => h q (by simp [hq])) i j (by simpa using hi) hj
theorem XVal.six {w : World} {B : Nat} {v : Value} {s : Sx} (h : XVal w B v s) : (c6 v).length = 6 := by
  obtain ⟨_, _, _, _, _, _, rfl⟩ := h.form
  rfl
/-- An element's cells. -/
theorem RowX.at {w : World} {B : Nat} {v : Value} {ps : List (Value × Sx)} (h : RowX w B v ps) (i : Nat) (hi : i < ps.length) :
    ∃ g cap neg a n c b tx, v = .slice (some ⟨g, 0, none⟩) ps.length cap ∧ g < w.heap.size ∧ (ps[i]'hi).1 = pv (kx (ps[i]'hi).2) neg a n c b tx none 0 0 ∧
      w.cell? ⟨g, i * 6, none⟩ = some (.int .i64 (kx (ps[i]'hi).2)) ∧ w.cell? ⟨g, i * 6 + 1, none⟩ = some (.bool neg) ∧ w.cell? ⟨g, i * 6 + 2, none⟩ = some (.slice a n c) ∧ w.cell? ⟨g, i * 6 + 3, none⟩ = some (.int .u64 b) ∧ w.cell? ⟨g, i * 6 + 4, none⟩ = some (.string tx) ∧ w.cell? ⟨g, i * 6 + 5, none⟩ = some (.slice none 0 0) := by
  obtain ⟨neg, a, n, c, b, tx, he⟩ := (h.2 _ (List.getElem_mem hi)).form
  rcases h.1.2 with ⟨_, h0⟩ | ⟨g, cap, cur, rfl, hb, hh, _⟩
  · omega
  · have hc : ∀ k u, (ps.flatMap fun p => c6 p.1)[k]? = some u → w.cell? ⟨g, k, none⟩ = some u := fun k u hk => by
      have := h.1.cells (g := g) rfl k u hk
      rw [Addr.add_lit] at this
      simpa using this
    have hf := fun j => flat_six (fun p hp => (h.2 p hp).six) i j hi
    simp only [he] at hf
    exact ⟨g, cap, neg, a, n, c, b, tx, rfl, (Array.getElem?_eq_some_iff.1 hh).1, he, hc _ _ (hf 0 (by omega)), hc _ _ (hf 1 (by omega)), hc _ _ (hf 2 (by omega)), hc _ _ (hf 3 (by omega)), hc _ _ (hf 4 (by omega)), hc _ _ (hf 5 (by omega))⟩
end Go.Proofs.YtmpfffcdpecadaaGreat
