/- Words at a place of a block, whatever else the block holds; writes to a part of one block alone. No program in sight but for the type of a word. -/
import Derived.Test.YtndeolcamgnmdaaGreatDoorModBaseD
set_option linter.unusedVariables false
set_option linter.unusedSimpArgs false
set_option linter.unnecessarySimpa false
namespace Go.Proofs.YtndeolcamgnmdaaGreatDoor
open Go.RowKit
/-- Block g is a row of c words' room. -/
def RowB (w : World) (g c : Nat) : Prop := ∃ cur, w.heap[g]? = some (.cells cur 83 (0, 0)) ∧ cur.size = c
/-- From cell o of block g on these words stand. -/
def WA (w : World) (g o : Nat) (ws : List Nat) : Prop := ∀ j (h : j < ws.length), w.cell? ⟨g, o + j, none⟩ = some (.int .u64 ((ws[j]'h : Nat) : Int))
/-- w' is w with new blocks, and with writes to cells o to o + k of block g alone. -/
structure Wr (g o k : Nat) (w w' : World) : Prop where
  os : w'.os = w.os
  tape : w'.tape = w.tape
  output : w'.output = w.output
  size : w.heap.size ≤ w'.heap.size
  block : ∀ b, b < w.heap.size → b ≠ g → w'.heap[b]? = w.heap[b]?
  row : ∀ cur t z, w.heap[g]? = some (.cells cur t z) → ∃ cur', w'.heap[g]? = some (.cells cur' t z) ∧ cur'.size = cur.size ∧ ∀ i, ¬ (o ≤ i ∧ i < o + k) → cur'[i]? = cur[i]?
section
variable {w w' w'' : World} {g o k : Nat}
theorem RowB.lt {c : Nat} (h : RowB w g c) : g < w.heap.size := by obtain ⟨cur, h, _⟩ := h; exact (Array.getElem?_eq_some_iff.1 h).1
theorem RowB.some {c i : Nat} (h : RowB w g c) (hi : i < c) : ∃ u, w.cell? ⟨g, i, none⟩ = some u := by
  obtain ⟨cur, h, hs⟩ := h
  refine ⟨cur[i]'(by omega), ?_⟩
  simp [World.cell?, h, hs, hi]
theorem RowB.free {c : Nat} (h : RowB w g c) (i : Nat) : w.frozen? ⟨g, i, none⟩ = false := by
  obtain ⟨cur, h, hs⟩ := h
  simp [World.frozen?, h]
theorem RowB.hp {c : Nat} (h : RowB w g c) (e : w'.heap = w.heap) : RowB w' g c := by
  obtain ⟨cur, h, hs⟩ := h
  exact ⟨cur, by rw [e]; exact h, hs⟩
theorem WA.hp {ws : List Nat} (h : WA w g o ws) (e : w'.heap = w.heap) : WA w' g o ws := fun j hj => by
  have := h j hj
  unfold World.cell? at this ⊢
  rw [e]; exact this
theorem WA.nil (w : World) (g o : Nat) : WA w g o [] := fun j hj => by simp at hj
theorem Wr.refl (g o k : Nat) (w : World) : Wr g o k w w := ⟨rfl, rfl, rfl, Nat.le_refl _, fun _ _ _ => rfl, fun cur _ _ h => ⟨cur, h, rfl, fun _ _ => rfl⟩⟩
theorem Wr.trans (h : Wr g o k w w') (h' : Wr g o k w' w'') : Wr g o k w w'' :=
  ⟨h'.os.trans h.os, h'.tape.trans h.tape, h'.output.trans h.output, Nat.le_trans h.size h'.size, fun b hb hne => (h'.block b (Nat.lt_of_lt_of_le hb h.size) hne).trans (h.block b hb hne),
   fun cur t z hc => by
    obtain ⟨c1, h1, h2, h3⟩ := h.row cur t z hc
    obtain ⟨c2, h4, h5, h6⟩ := h'.row c1 t z h1
    exact ⟨c2, h4, h5.trans h2, fun i hi => (h6 i hi).trans (h3 i hi)⟩⟩
theorem Wr.mono {o2 k2 : Nat} (h : Wr g o k w w') (h1 : o2 ≤ o) (h2 : o + k ≤ o2 + k2) : Wr g o2 k2 w w' :=
  ⟨h.os, h.tape, h.output, h.size, h.block, fun cur t z hc => by
    obtain ⟨c1, a, b, c⟩ := h.row cur t z hc
    exact ⟨c1, a, b, fun i hi => c i (fun ⟨h3, h4⟩ => hi ⟨by omega, by omega⟩)⟩⟩
theorem Wr.hp (h : Wr g o k w w') (e : w''.heap = w'.heap) (e1 : w''.os = w'.os) (e2 : w''.tape = w'.tape) (e3 : w''.output = w'.output) : Wr g o k w w'' :=
  ⟨e1.trans h.os, e2.trans h.tape, e3.trans h.output, by rw [e]; exact h.size, fun b hb hne => by rw [e]; exact h.block b hb hne, fun cur t z hc => by rw [e]; exact h.row cur t z hc⟩
theorem Wr.drewN (h : Wr g o k w w') (n : Nat) : Wr g o k w (w'.drewN n) := h.hp rfl rfl rfl rfl
theorem Wr.drew (h : Wr g o k w w') : Wr g o k w w'.drew := h.hp rfl rfl rfl rfl
theorem Wr.set (h : Wr g o k w w') {i : Nat} (h1 : o ≤ i) (h2 : i < o + k) (u : Value) : Wr g o k w (w'.setCell ⟨g, i, none⟩ u) := by
  refine h.trans ⟨rfl, rfl, rfl, by simp, fun b _ hne => Below.heap_setCell w' ⟨g, i, none⟩ u b hne, fun cur t z hc => ⟨cur.setIfInBounds i u, ?_, by simp, fun j hj => ?_⟩⟩
  · simp [World.setCell, Array.getElem?_modify, hc]
  · have : i ≠ j := fun e => hj ⟨by omega, by omega⟩
    simp [Array.getElem?_setIfInBounds, this]
theorem cell_lt {b i : Nat} {u : Value} (h : w.cell? ⟨b, i, none⟩ = some u) : b < w.heap.size := by
  unfold World.cell? at h
  rcases Nat.lt_or_ge b w.heap.size with h1 | h1
  · exact h1
  · rw [Array.getElem?_eq_none h1] at h
    simp at h
theorem Wr.cell (h : Wr g o k w w') {b i : Nat} {u : Value} (hb : w.cell? ⟨b, i, none⟩ = some u) (hn : ¬ (b = g ∧ o ≤ i ∧ i < o + k)) : w'.cell? ⟨b, i, none⟩ = some u := by
  by_cases hg : b = g
  · subst hg
    unfold World.cell? at hb ⊢
    cases hc : w.heap[b]? with
    | none => rw [hc] at hb; simp at hb
    | some x =>
      rw [hc] at hb
      cases x with
      | cells cur t z =>
        obtain ⟨c1, a, _, c⟩ := h.row cur t z hc
        simp only [a]
        simp only at hb
        rw [c i (fun e => hn ⟨rfl, e⟩)]
        exact hb
      | _ => simp at hb
  · have hl := cell_lt hb
    unfold World.cell? at hb ⊢
    rw [h.block b hl hg]
    exact hb
theorem Wr.rowB (h : Wr g o k w w') {b c : Nat} (hr : RowB w b c) : RowB w' b c := by
  obtain ⟨cur, hc, hs⟩ := hr
  by_cases hg : b = g
  · subst hg
    obtain ⟨c1, a, b, _⟩ := h.row cur _ _ hc
    exact ⟨c1, a, b.trans hs⟩
  · exact ⟨cur, (h.block b (Array.getElem?_eq_some_iff.1 hc).1 hg).trans hc, hs⟩
theorem WA.keep {gx ox : Nat} {ws : List Nat} (h : WA w gx ox ws) (k' : Wr g o k w w') (hn : gx ≠ g ∨ ox + ws.length ≤ o ∨ o + k ≤ ox) : WA w' gx ox ws := fun j hj => by
  exact k'.cell (h j hj) (by rintro ⟨h1, h2, h3⟩; rcases hn with hn | hn | hn <;> omega)
theorem WA.put {ws : List Nat} {i x : Nat} (h : WA w g o ws) (hl : ws.length = i) {c : Nat} (hr : RowB w g c) (hc : o + i < c) : WA (w.setCell ⟨g, o + i, none⟩ (.int .u64 (x : Int))) g o (ws ++ [x]) := fun j hj => by
  obtain ⟨cur, hg, hs⟩ := hr
  by_cases e : j = i
  · subst e
    have e2 : (ws ++ [x])[j]'hj = x := by simp [← hl]
    rw [e2]
    simp [World.cell?, World.setCell, Array.getElem?_modify, hg, hs, hc]
  · simp at hj
    have hj2 : j < ws.length := by omega
    have h1 := h j hj2
    have e2 : (ws ++ [x])[j]'(by simp; omega) = ws[j]'hj2 := List.getElem_append_left hj2
    rw [e2]
    unfold World.cell? at h1 ⊢
    rw [hg] at h1
    have hne : ¬ i = j := fun e2 => e e2.symm
    simp [World.setCell, Array.getElem?_modify, hg, Array.getElem?_setIfInBounds, hne] at h1 ⊢
    exact h1
/-- Reading x from (gx, ox) on while z is written from (g, o) on, each place read ahead of its write. -/
def Ok (g o gx ox n : Nat) : Prop := ∀ i, i < n → ¬ (gx = g ∧ o ≤ ox + i ∧ ox + i < o + i)
theorem Ok.same (g o n : Nat) : Ok g o g o n := fun i _ => by omega
theorem Ok.apart {g o gx ox n : Nat} (h : gx ≠ g) : Ok g o gx ox n := fun i _ e => h e.1
end
end Go.Proofs.YtndeolcamgnmdaaGreatDoor
