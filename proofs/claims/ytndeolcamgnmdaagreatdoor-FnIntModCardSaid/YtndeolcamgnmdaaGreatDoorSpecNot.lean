/- The reference's sums and differences of integers. -/
import Derived.Test.YtndeolcamgnmdaaGreatDoorModBaseE
import Derived.Test.YtndeolcamgnmdaaGreatDoorIntSignLaw
import Derived.Deep.RegionHeld3
import Derived.Deep.DrawnRows
set_option linter.unusedVariables false
set_option linter.unusedSimpArgs false
set_option linter.unnecessarySimpa false
namespace Go.Proofs.YtndeolcamgnmdaaGreatDoor
open Go.RowKit
attribute [local go_sem ↓] Go.wp_at_zero Go.wp_at_succ
theorem of_val (b : Bool) (l : List Nat) : intOf2 (negOf b l) (strip l) = intOf2 b l := by
  unfold intOf2 negOf
  rw [natOf_strip]
  cases b with
  | false => simp
  | true =>
    by_cases h : strip l = []
    · have : natOf l = 0 := by rw [← natOf_strip, h]; rfl
      simp [h, this]
    · have : (strip l).isEmpty = false := by simpa using h
      simp [this]
theorem num_fin {w w2 : World} {R : Nat} {nb : Bool} {sl : Value} {l : List Nat} {n : Int} (hR : w.heap.size ≤ R) (hs : SInt w2 (R + 1) (.agg #[.bool nb, sl]) nb l) (hn : intOf2 nb l = n) (hb : Below w.heap.size w w2) :
    NumPost n w (.returned (.agg #[.bool nb, sl])) ((w2.setCell ⟨R, 0, none⟩ (.bool nb)).setCell ⟨R, 1, none⟩ sl) := by
  have h256 : ∀ x ∈ l, x < 256 := by obtain ⟨_, _, ho, _⟩ := hs; exact ho.2.2
  exact ⟨_, nb, l, rfl, (hs.only (two_set w2 R (.bool nb) sl) (fun k hk e => by omega)).base (by omega), h256, hn, (hb.setCell (p := ⟨R, 0, none⟩) hR _).setCell (p := ⟨R, 1, none⟩) hR _⟩
theorem SInt.lit2 {w : World} {B : Nat} {v : Value} {neg : Bool} {l : List Nat} (h : SInt w B v neg l) : ∃ g c, v = .agg #[.bool neg, .slice (some ⟨g, 0, none⟩) l.length c] := by
  obtain ⟨vs, rfl, ho, _, _⟩ := h
  obtain ⟨g, c, hvs, _⟩ := ho.form
  exact ⟨g, c, by rw [hvs]⟩
theorem two_alloc {w W : World} {t : TypeId} {a b c d : Value} (h : Below (w.heap.size + 1 + 1) ((w.alloc (.cells #[a, b] t)).alloc (.cells #[c, d] t)) W) : Blk W w.heap.size t #[a, b] ∧ Blk W (w.heap.size + 1) t #[c, d] ∧ w.heap.size + 1 + 1 ≤ W.heap.size ∧ Below w.heap.size w W :=
  ⟨((Blk.new w t #[a, b]).alloc (.cells #[c, d] t)).below h (by omega), (Blk.new_at (w.alloc (.cells #[a, b] t)) t #[c, d] (n := w.heap.size + 1) (by simp)).below h (by omega), by have := h.size; simpa using this, (((Below.refl _ w).alloc (Nat.le_refl _) _).alloc (by simp) _).trans (h.mono (by omega))⟩
theorem minus_len {w w' : World} {B B' K : Nat} {v v' : Value} {n n' : Bool} {l l' : List Nat} (h : SInt w B v n l) (hn : intOf2 n l = -(intOf2 n' l')) (h' : SInt w' B' v' n' l') (hl : l'.length ≤ K) : l.length ≤ K := by
  obtain ⟨_, _, _, hh, _⟩ := h
  obtain ⟨_, _, ho', _, _⟩ := h'
  have h1 := natOf_lt l' ho'.2.2
  have h2 : natOf l = natOf l' := by unfold intOf2 at hn; cases n <;> cases n' <;> simp at hn <;> omega
  have h3 : 256 ^ l'.length ≤ 256 ^ K := Nat.pow_le_pow_right (by omega) hl
  exact natOf_lenle hh K (by omega)
theorem natOf_len2 {l : List Nat} (hh : l.head? ≠ some 0) (hb : ∀ x ∈ l, x < 256) {k : Nat} (h : natOf l < 256 ^ k) : l.length ≤ k := natOf_lenle hh k h
theorem three_alloc {w W : World} {t : TypeId} {a b c d e f : Value} (h : Below (w.heap.size + 1 + 1 + 1) (((w.alloc (.cells #[a, b] t)).alloc (.cells #[c, d] t)).alloc (.cells #[e, f] t)) W) :
    Blk W w.heap.size t #[a, b] ∧ Blk W (w.heap.size + 1) t #[c, d] ∧ Blk W (w.heap.size + 1 + 1) t #[e, f] ∧ w.heap.size + 1 + 1 + 1 ≤ W.heap.size ∧ Below w.heap.size w W :=
  ⟨(((Blk.new w t #[a, b]).alloc (.cells #[c, d] t)).alloc (.cells #[e, f] t)).below h (by omega), ((Blk.new_at (w.alloc (.cells #[a, b] t)) t #[c, d] (n := w.heap.size + 1) (by simp)).alloc (.cells #[e, f] t)).below h (by omega), (Blk.new_at ((w.alloc (.cells #[a, b] t)).alloc (.cells #[c, d] t)) t #[e, f] (n := w.heap.size + 1 + 1) (by simp)).below h (by omega), by have := h.size; simpa using this, ((((Below.refl _ w).alloc (Nat.le_refl _) _).alloc (by simp) _).alloc (by simp; omega) _).trans (h.mono (by omega))⟩
theorem three_cells {w W : World} {t : TypeId} {a b c d e f : Value} (h : Below (w.heap.size + 1 + 1 + 1) (((w.alloc (.cells #[a, b] t)).alloc (.cells #[c, d] t)).alloc (.cells #[e, f] t)) W) :
    W.cell? ⟨w.heap.size, 0, none⟩ = some a ∧ W.cell? ⟨w.heap.size, 1, none⟩ = some b ∧ W.cell? ⟨w.heap.size + 1, 0, none⟩ = some c ∧ W.cell? ⟨w.heap.size + 1, 1, none⟩ = some d := by
  obtain ⟨h1, h2, _⟩ := three_alloc h
  obtain ⟨e0, e1, _⟩ := blk2 h1
  obtain ⟨f0, f1, _⟩ := blk2 h2
  exact ⟨e0, e1, f0, f1⟩
theorem three_set {w W : World} {t : TypeId} {a b c d e f : Value} (h : Below (w.heap.size + 1 + 1 + 1) (((w.alloc (.cells #[a, b] t)).alloc (.cells #[c, d] t)).alloc (.cells #[e, f] t)) W) (u u' : Value) :
    ((W.setCell ⟨w.heap.size + 1 + 1, 0, none⟩ u).setCell ⟨w.heap.size + 1 + 1, 1, none⟩ u').cell? ⟨w.heap.size, 0, none⟩ = some a ∧ ((W.setCell ⟨w.heap.size + 1 + 1, 0, none⟩ u).setCell ⟨w.heap.size + 1 + 1, 1, none⟩ u').cell? ⟨w.heap.size, 1, none⟩ = some b ∧
    ((W.setCell ⟨w.heap.size + 1 + 1, 0, none⟩ u).setCell ⟨w.heap.size + 1 + 1, 1, none⟩ u').cell? ⟨w.heap.size + 1, 0, none⟩ = some c ∧ ((W.setCell ⟨w.heap.size + 1 + 1, 0, none⟩ u).setCell ⟨w.heap.size + 1 + 1, 1, none⟩ u').cell? ⟨w.heap.size + 1, 1, none⟩ = some d := by
  obtain ⟨h1, h2, _⟩ := three_alloc h
  have k1 := (h1.far (p := ⟨w.heap.size + 1 + 1, 0, none⟩) (by simp; omega) u).far (p := ⟨w.heap.size + 1 + 1, 1, none⟩) (by simp; omega) u'
  have k2 := (h2.far (p := ⟨w.heap.size + 1 + 1, 0, none⟩) (by simp) u).far (p := ⟨w.heap.size + 1 + 1, 1, none⟩) (by simp) u'
  obtain ⟨e0, e1, _⟩ := blk2 k1
  obtain ⟨f0, f1, _⟩ := blk2 k2
  exact ⟨e0, e1, f0, f1⟩
def boxed (w : World) (t : TypeId) (n1 n2 : Bool) (s1 s2 : Value) : World := ((w.alloc (.cells #[.bool n1, s1] t)).alloc (.cells #[.bool n2, s2] t)).alloc (.cells #[.bool false, .slice none 0 0] t)
end Go.Proofs.YtndeolcamgnmdaaGreatDoor
