/- The float that is nearest to an integer: plain arithmetic. -/
import Derived.Test.YtndeolcamgnmdaaFltOps
import Derived.Test.YtndeolcamgnmdaaFltBits
namespace Go.Proofs.Ytndeolcamgnmdaa
open Ieee
/-- The rung of the float that is nearest to N. -/
def rint (N : Nat) : Nat := if N = 0 then 0 else rungOf N 0
theorem nearest_int (n : Int) : FloatKind.f64.nearest n = FW (decide (n < 0)) (rint n.natAbs) := by
  unfold FloatKind.nearest rint
  by_cases h : n.natAbs = 0
  · obtain rfl : n = 0 := by omega
    decide
  · rw [if_neg h]
    show double.write _ = _
    rw [← word_fw, ← nearest_eq _ _ _ h]
    rfl
theorem rint_big (N : Nat) (h : 52 ≤ N.log2) : rint N = min ((N.log2 + 1022) * B52 + cutG N (N.log2 - 52)) infR := by
  have h0 : N ≠ 0 := fun e => by rw [e] at h; simp at h
  unfold rint rungOf
  rw [if_neg h0]
  have e : max (0 + (N.log2 : Int) - 52) (-1074) = (N.log2 : Int) - 52 := by omega
  rw [e, cut_eq]
  have e1 : ((0 : Int) - ((N.log2 : Int) - 52)).toNat = 0 := by omega
  have e2 : ((N.log2 : Int) - 52 - 0).toNat = N.log2 - 52 := by omega
  have e3 : ((N.log2 : Int) - 52 + 1074).toNat = N.log2 + 1022 := by omega
  rw [e1, e2, e3, Nat.shiftLeft_eq, Nat.pow_zero, Nat.mul_one, show min (N.log2 - 52) (N.log2 + 2) = N.log2 - 52 from Nat.min_eq_left (by omega)]
theorem rint_small (N : Nat) (h0 : N ≠ 0) (h : N.log2 ≤ 52) : rint N = (N.log2 + 1022) * B52 + N * 2 ^ (52 - N.log2) ∧ B52 ≤ N * 2 ^ (52 - N.log2) ∧ N * 2 ^ (52 - N.log2) < 2 * B52 := by
  have h1 := Nat.log2_self_le h0
  have h2 : N < 2 ^ (N.log2 + 1) := Nat.lt_log2_self
  have hB : B52 = 2 ^ N.log2 * 2 ^ (52 - N.log2) := by rw [← Nat.pow_add, B52_two]; congr 1; omega
  have hl : B52 ≤ N * 2 ^ (52 - N.log2) := by rw [hB]; exact Nat.mul_le_mul_right _ h1
  have hu : N * 2 ^ (52 - N.log2) < 2 * B52 := by
    rw [hB, ← Nat.mul_assoc, Nat.mul_comm 2 (2 ^ N.log2), ← Nat.pow_succ]
    exact Nat.mul_lt_mul_of_pos_right h2 (Nat.pow_pos (by omega))
  refine ⟨?_, hl, hu⟩
  unfold rint rungOf
  rw [if_neg h0]
  have e : max (0 + (N.log2 : Int) - 52) (-1074) = (N.log2 : Int) - 52 := by omega
  rw [e, cut_eq]
  have e1 : ((0 : Int) - ((N.log2 : Int) - 52)).toNat = 52 - N.log2 := by omega
  have e2 : ((N.log2 : Int) - 52 - 0).toNat = 0 := by omega
  have e3 : ((N.log2 : Int) - 52 + 1074).toNat = N.log2 + 1022 := by omega
  rw [e1, e2, e3, Nat.shiftLeft_eq, Nat.zero_min, cutG_zero]
  refine Nat.min_eq_left ?_
  rw [infR_eq]
  have : (N.log2 + 1022) * B52 ≤ 1074 * B52 := Nat.mul_le_mul_right _ (by omega)
  omega
/-- A float from 1 on, doubled. -/
theorem mul_two' {r E T : Nat} (h0 : B52 ≤ r) (h : r + B52 < infR) (hE : E = 1023) (hb : T = E * B52 + B52) (hlt : E * B52 + B52 < infR) : double.mul r T = some (r + B52) := by
  obtain ⟨h1, _⟩ | ⟨h1, h2, h3, h4, _, _⟩ := f_split r
  · omega
  have hfn := f_norm (e := E) (m := B52) (Nat.le_refl _) (by have := B52_pos; omega)
  have b1 := hfn.1
  have b2 := hfn.2.1
  have hr : r < infR := by omega
  have hr0 : 0 < r := by have := B52_pos; omega
  have hT0 : 0 < E * B52 + B52 := by have := B52_pos; omega
  have hm0 := mul_pos hr hlt hr0 hT0
  rw [hb]
  refine hm0.trans ?_
  rw [b1, b2]
  refine congrArg some ?_
  have e1 : -1074 + (fexp r : Int) + (-1074 + (E : Int)) + ((52 : Nat) : Int) = -1074 + ((fexp r + 1 : Nat) : Int) := by omega
  have hm : fmag r ≠ 0 := by have := B52_pos; omega
  rw [B52_two, rung_scale _ _ _ hm, e1]
  have hfn2 := f_norm (e := fexp r + 1) (m := fmag r) h2 h3
  have c1 := hfn2.1
  have c2 := hfn2.2.1
  have hs : r + B52 = (fexp r + 1) * B52 + fmag r := by rw [Nat.add_mul, Nat.one_mul]; omega
  have hrs := rung_self (r := r + B52) (by have := B52_pos; omega) h
  rw [hs, c1, c2] at hrs
  rw [hrs, ← B52_two, hs]
theorem mul_two {r : Nat} (h0 : B52 ≤ r) (h : r + B52 < infR) : double.mul r 4611686018427387904 = some (r + B52) := mul_two' h0 h rfl (by decide) (by decide)
end Go.Proofs.Ytndeolcamgnmdaa
