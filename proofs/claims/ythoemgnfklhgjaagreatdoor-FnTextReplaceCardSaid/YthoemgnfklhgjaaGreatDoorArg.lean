/- The reference's two places of a text. -/
import Derived.Test.YthoemgnfklhgjaaGreatDoorScalars
import Derived.Test.YthoemgnfklhgjaaGreatDoorRepCall
namespace Go.Proofs.YthoemgnfklhgjaaGreatDoor
open Go.RowKit
attribute [local go_sem ↓] Go.wp_at_zero Go.wp_at_succ
theorem of_val2 {neg : Bool} {l : List Nat} : intOf2 (negOf neg l) (strip l) = intOf2 neg l := by
  unfold intOf2
  rw [natOf_strip]
  cases neg with
  | false => simp [negOf]
  | true =>
    cases hs : strip l with
    | cons x r => simp [negOf, hs]
    | nil =>
      have := natOf_strip l
      rw [hs] at this
      simp [natOf] at this
      simp [negOf, hs, ← this]
/-- A value in a block, from cell o on. -/
def ArgAt (w : World) (S o : Nat) (s : Sc) : Prop := S < w.heap.size ∧ ∃ neg a n c tx, PVal w 0 (pv (kindOf s) neg a n c 0 tx none 0 0) s ∧
  w.cell? ⟨S, o, none⟩ = some (.int .i64 (kindOf s)) ∧ w.cell? ⟨S, o + 1, none⟩ = some (.bool neg) ∧ w.cell? ⟨S, o + 2, none⟩ = some (.slice a n c) ∧ w.cell? ⟨S, o + 3, none⟩ = some (.int .u64 0) ∧ w.cell? ⟨S, o + 4, none⟩ = some (.string tx) ∧ w.cell? ⟨S, o + 5, none⟩ = some (.slice none 0 0)
theorem ArgAt.below {w w' : World} {S o : Nat} {s : Sc} (h : ArgAt w S o s) (hb : Below w.heap.size w w') : ArgAt w' S o s := by
  obtain ⟨hS, neg, a, n, c, tx, hp, c0, c1, c2, c3, c4, c5⟩ := h
  exact ⟨Nat.lt_of_lt_of_le hS hb.size, neg, a, n, c, tx, hp.below hb, (hb.cell (p := ⟨S, _, none⟩) hS).trans c0, (hb.cell (p := ⟨S, _, none⟩) hS).trans c1, (hb.cell (p := ⟨S, _, none⟩) hS).trans c2, (hb.cell (p := ⟨S, _, none⟩) hS).trans c3, (hb.cell (p := ⟨S, _, none⟩) hS).trans c4, (hb.cell (p := ⟨S, _, none⟩) hS).trans c5⟩
/-- The number of a value, with room or without. -/
def Num64 (n : Int) (W : World) (v : Value) : Prop := ∃ B neg l, SInt W B v neg l ∧ l.length ≤ 1000 ∧ intOf2 neg l = n
def Num2Post (n : Int) (w : World) (e : Ending) (w' : World) : Prop := ∃ v, e = .returned v ∧ Num64 n w' v ∧ Below w.heap.size w w'
def numOf : Sc → Int
  | .int n => n
  | _ => 0
theorem bsl_nil (w : World) : BSl w (.slice none 0 0) [] :=
  ⟨none, 0, rfl, Nat.le_refl _, Nat.zero_le _, by simp, fun _ => ⟨rfl, rfl⟩, fun p h => by simp at h⟩
theorem num_arg (s : Sc) (neg : Bool) (a : Option Addr) (n c : Nat) (tx : ByteArray) (w : World) (hs : s.ok) (hp : PVal w 0 (pv (kindOf s) neg a n c 0 tx none 0 0) s) :
    Calls Tryz.prog 50 #[pv (kindOf s) neg a n c 0 tx none 0 0] w (Num2Post (numOf s) w) := by
  cases s with
  | none =>
    injection hp with h1
    simp at h1
    obtain ⟨_, rfl, ⟨rfl, rfl, rfl⟩, _⟩ := h1
    refine (num_any 0 false none 0 0 0 tx none 0 0 [] w (bsl_nil w) (by simp)).mono ?_
    rintro e w' ⟨v, rfl, hsi, hb⟩
    exact ⟨v, rfl, ⟨_, _, _, hsi, by simp [strip], by rw [of_val2]; rfl⟩, hb⟩
  | str t =>
    injection hp with h1
    simp at h1
    obtain ⟨_, rfl, ⟨rfl, rfl, rfl⟩, _⟩ := h1
    refine (num_any 4 false none 0 0 0 tx none 0 0 [] w (bsl_nil w) (by simp)).mono ?_
    rintro e w' ⟨v, rfl, hsi, hb⟩
    exact ⟨v, rfl, ⟨_, _, _, hsi, by simp [strip], by rw [of_val2]; rfl⟩, hb⟩
  | int k =>
    obtain ⟨ng, l, ⟨vs, hv, ho, hh, hng⟩, hk⟩ := hp
    injection hv with hv
    simp at hv
    obtain ⟨_, rfl, rfl, rfl⟩ := hv
    have hk2 : -2147483648 ≤ k ∧ k ≤ 2147483647 := hs
    have hl := intOf2_len hh hk (by omega) (by omega)
    refine (num_any 2 neg a n c 0 ⟨#[]⟩ none 0 0 l w ho.bsl (by omega)).mono ?_
    rintro e w' ⟨v, rfl, hsi, hb⟩
    have hst := strip_le l
    exact ⟨v, rfl, ⟨_, _, _, hsi, by omega, by rw [of_val2]; exact hk⟩, hb⟩
end Go.Proofs.YthoemgnfklhgjaaGreatDoor
