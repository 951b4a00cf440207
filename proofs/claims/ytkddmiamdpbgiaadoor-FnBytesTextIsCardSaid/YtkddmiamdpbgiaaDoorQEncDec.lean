/- What the decoder has taken, the encoder gives back: plain arithmetic. -/
import Derived.Test.YtkddmiamdpbgiaaDoorValid
import Derived.Lib.QuoteLoop
import Derived.Lib.RuneBytes
import Derived.Lib.DecodeN
namespace Go.Proofs.YtkddmiamdpbgiaaDoor
theorem encdecN (n b0 b1 b2 b3 : Nat) (h0 : b0 < 256) (h1 : b1 < 256) (h2 : b2 < 256) (h3 : b3 < 256)
    (hg : ¬ ((Lib.decodeN n b0 b1 b2 b3).2 = 1 ∧ (Lib.decodeN n b0 b1 b2 b3).1 = 65533)) :
    Lib.encodeRuneZ ((Lib.decodeN n b0 b1 b2 b3).1 : Int) = ([(b0 : Int), b1, b2, b3].take (Lib.decodeN n b0 b1 b2 b3).2) := by
  revert hg
  unfold Lib.decodeN
  split
  · intro _
    rw [Lib.encodeRuneZ_one (by omega) (by simp only []; omega)]
    simp
  · split
    · split
      · intro _
        rw [Lib.encodeRuneZ_two (by simp only []; omega) (by simp only []; omega)]
        simp only [List.take_succ_cons, List.take_zero, List.cons.injEq, and_true]
        omega
      · intro h; simp at h
    · split
      · split
        · intro _
          rw [Lib.encodeRuneZ_three (by simp only []; omega)]
          simp only [List.take_succ_cons, List.take_zero, List.cons.injEq, and_true]
          omega
        · intro h; simp at h
      · split
        · split
          · intro _
            rw [Lib.encodeRuneZ_four (by simp only []; omega) (by simp only []; omega)]
            simp only [List.take_succ_cons, List.take_zero, List.cons.injEq, and_true]
            omega
          · intro h; simp at h
        · intro h; simp at h
theorem decodeN_le4 (n b0 b1 b2 b3 : Nat) : (Lib.decodeN n b0 b1 b2 b3).2 ≤ 4 := by
  unfold Lib.decodeN
  repeat' split
  all_goals simp
theorem take_pad (l : List UInt8) (k : Nat) (hk : k ≤ 4) (hl : k ≤ l.length) :
    [((l.getD 0 0).toNat : Int), ((l.getD 1 0).toNat : Int), ((l.getD 2 0).toNat : Int), ((l.getD 3 0).toNat : Int)].take k = (l.take k).map fun c => (c.toNat : Int) := by
  apply List.ext_getElem?
  intro i
  rw [List.getElem?_take, List.getElem?_map, List.getElem?_take]
  by_cases hi : i < k
  · rw [if_pos hi, if_pos hi, List.getElem?_eq_getElem (show i < l.length by omega)]
    have h4 : i = 0 ∨ i = 1 ∨ i = 2 ∨ i = 3 := by omega
    have hg : ∀ j (h : j < l.length), (l[j]?).getD 0 = l[j] := fun j h => by simp [List.getElem?_eq_getElem h]
    rcases h4 with rfl | rfl | rfl | rfl
    · simp [hg 0 (by omega)]
    · simp [hg 1 (by omega)]
    · simp [hg 2 (by omega)]
    · simp [hg 3 (by omega)]
  · rw [if_neg hi, if_neg hi]; rfl
theorem encdec (s : ByteArray) (hs : 0 < s.size) (hg : ¬ ((Utf8.decode s 0).2 = 1 ∧ (Utf8.decode s 0).1 = 65533)) :
    Lib.encodeRuneZ ((Utf8.decode s 0).1 : Int) = (s.data.toList.take (Utf8.decode s 0).2).map fun c => (c.toNat : Int) := by
  have hw := Lib.width_le s hs
  have hl : s.data.toList.length = s.size := by simp
  rw [Lib.decode_N] at hg hw ⊢
  have hb : ∀ j : Nat, (s.data.toList.getD j 0).toNat < 256 := fun j => UInt8.toNat_lt _
  rw [encdecN _ _ _ _ _ (hb _) (hb _) (hb _) (hb _) hg]
  exact take_pad _ _ (decodeN_le4 _ _ _ _ _) (by omega)
end Go.Proofs.YtkddmiamdpbgiaaDoor
