/- Rows of differences, 4, 5 and 6 bits each, and a bit that says that more follows: written and read again. Plain. -/
import Derived.Test.YtkddmiamdpbgiaaVint
namespace Go.Proofs.Ytkddmiamdpbgiaa
/-- One row. -/
def dRow (dp : Nat) (dl dc : Int) (more : Nat) : Nat := dp * 4096 + (dl % 32).toNat * 128 + (dc % 64).toNat * 2 + more
/-- The signed number of the lowest bits below m. -/
def sBits (x m : Nat) : Int := if x % m < m / 2 then ((x % m : Nat) : Int) else ((x % m : Nat) : Int) - (m : Int)
/-- The rows that bring one place to another: given by the differences. -/
def deltas : Nat → Nat → Int → Int → List Nat
  | 0, _, _, _ => []
  | f + 1, dp, dl, dc =>
    if dp ≤ 15 ∧ clipped dl (-16) 15 = dl ∧ clipped dc (-32) 31 = dc then [dRow dp dl dc 0]
    else dRow (min dp 15) (clipped dl (-16) 15) (clipped dc (-32) 31) 1 :: deltas f (dp - min dp 15) (dl - clipped dl (-16) 15) (dc - clipped dc (-32) 31)
/-- The places that rows tell. -/
def undelta : List Nat → Nat → Int → Int → List (Nat × Int × Int)
  | [], _, _, _ => []
  | x :: xs, p, l, c =>
    if x % 2 = 0 then (p + x / 4096, l + sBits (x / 128) 32, c + sBits (x / 2) 64) :: undelta xs (p + x / 4096) (l + sBits (x / 128) 32) (c + sBits (x / 2) 64)
    else undelta xs (p + x / 4096) (l + sBits (x / 128) 32) (c + sBits (x / 2) 64)
theorem undelta_cons (x : Nat) (xs : List Nat) (p : Nat) (l c : Int) : undelta (x :: xs) p l c = if x % 2 = 0 then (p + x / 4096, l + sBits (x / 128) 32, c + sBits (x / 2) 64) :: undelta xs (p + x / 4096) (l + sBits (x / 128) 32) (c + sBits (x / 2) 64)
    else undelta xs (p + x / 4096) (l + sBits (x / 128) 32) (c + sBits (x / 2) 64) := rfl
theorem row_parts (dp : Nat) (dl dc : Int) (m : Nat) (hl : -16 ≤ dl ∧ dl ≤ 15) (hc : -32 ≤ dc ∧ dc ≤ 31) (hm : m ≤ 1) :
    dRow dp dl dc m / 4096 = dp ∧ sBits (dRow dp dl dc m / 128) 32 = dl ∧ sBits (dRow dp dl dc m / 2) 64 = dc ∧ dRow dp dl dc m % 2 = m := by
  have e1 : ∃ a : Nat, (dl % 32).toNat = a ∧ a < 32 ∧ (a : Int) = dl % 32 := ⟨_, rfl, by omega, by omega⟩
  have e2 : ∃ a : Nat, (dc % 64).toNat = a ∧ a < 64 ∧ (a : Int) = dc % 64 := ⟨_, rfl, by omega, by omega⟩
  obtain ⟨a, ha, ha2, ha3⟩ := e1
  obtain ⟨b, hb, hb2, hb3⟩ := e2
  unfold dRow sBits
  rw [ha, hb]
  have q1 : (dp * 4096 + a * 128 + b * 2 + m) / 4096 = dp := by omega
  have q2 : (dp * 4096 + a * 128 + b * 2 + m) / 128 % 32 = a := by omega
  have q3 : (dp * 4096 + a * 128 + b * 2 + m) / 2 % 64 = b := by omega
  have q4 : (dp * 4096 + a * 128 + b * 2 + m) % 2 = m := by omega
  rw [q1, q2, q3, q4]
  refine ⟨rfl, ?_, ?_, rfl⟩
  · split <;> omega
  · split <;> omega
theorem clipped_in (x lo hi : Int) (h : lo ≤ hi) : lo ≤ clipped x lo hi ∧ clipped x lo hi ≤ hi := by
  unfold clipped
  split
  · omega
  · split <;> omega
theorem clipped_near (x lo hi : Int) (h0 : lo < 0) (h1 : 0 < hi) : clipped x lo hi = x ∨ (x - clipped x lo hi).natAbs < x.natAbs := by
  unfold clipped
  split
  · right; omega
  · split
    · right; omega
    · left; rfl
theorem clipped_le (x lo hi : Int) (h0 : lo < 0) (h1 : 0 < hi) : (x - clipped x lo hi).natAbs ≤ x.natAbs := by
  rcases clipped_near x lo hi h0 h1 with h | h
  · rw [h]; omega
  · omega
theorem undelta_deltas (rest : List Nat) : ∀ f dp dl dc, dp + dl.natAbs + dc.natAbs < f → ∀ p l c,
    undelta (deltas f dp dl dc ++ rest) p l c = (p + dp, l + dl, c + dc) :: undelta rest (p + dp) (l + dl) (c + dc) := by
  intro f
  induction f with
  | zero => intro dp dl dc h; omega
  | succ f ih =>
    intro dp dl dc h p l c
    unfold deltas
    have hl := clipped_in dl (-16) 15 (by omega)
    have hc := clipped_in dc (-32) 31 (by omega)
    split
    · next hh =>
      obtain ⟨h1, h2, h3⟩ := hh
      rw [h2] at hl
      rw [h3] at hc
      obtain ⟨r1, r2, r3, r4⟩ := row_parts dp dl dc 0 hl hc (by omega)
      show undelta (dRow dp dl dc 0 :: rest) p l c = _
      rw [undelta_cons, r4, r1, r2, r3, if_pos rfl]
    · next hh =>
      obtain ⟨r1, r2, r3, r4⟩ := row_parts (min dp 15) _ _ 1 hl hc (by omega)
      have nl := clipped_near dl (-16) 15 (by omega) (by omega)
      have nc := clipped_near dc (-32) 31 (by omega) (by omega)
      have ll := clipped_le dl (-16) 15 (by omega) (by omega)
      have lc := clipped_le dc (-32) 31 (by omega) (by omega)
      have hless : (dp - min dp 15) + (dl - clipped dl (-16) 15).natAbs + (dc - clipped dc (-32) 31).natAbs < f := by
        by_cases h1 : dp ≤ 15
        · by_cases h2 : clipped dl (-16) 15 = dl
          · have h3 : ¬ clipped dc (-32) 31 = dc := fun h3 => hh ⟨h1, h2, h3⟩
            rcases nc with nc | nc
            · exact absurd nc h3
            · omega
          · rcases nl with nl | nl
            · exact absurd nl h2
            · omega
        · omega
      rw [List.cons_append]
      rw [undelta_cons, r4, r1, r2, r3, if_neg (by omega), ih _ _ _ hless]
      have e1 : p + min dp 15 + (dp - min dp 15) = p + dp := by omega
      have e2 : l + clipped dl (-16) 15 + (dl - clipped dl (-16) 15) = l + dl := by omega
      have e3 : c + clipped dc (-32) 31 + (dc - clipped dc (-32) 31) = c + dc := by omega
      rw [e1, e2, e3]
end Go.Proofs.Ytkddmiamdpbgiaa
