/- The walk of the reference's literal of bytes. -/
import Derived.Test.YtkddmiamdpbgiaaDoorSpecCoded
import Derived.Test.YtkddmiamdpbgiaaDoorQuote
import Derived.Deep.RegionLaw
namespace Go.Proofs.YtkddmiamdpbgiaaDoor
open Go.RowKit
def letters : ByteArray := ⟨#[97, 98, 102, 110, 114, 116, 118, 34, 92]⟩
theorem letters_size : letters.size = 9 := rfl
theorem ext_ext (s : ByteArray) (k K : Nat) : (s.extract k s.size).extract K (s.extract k s.size).size = s.extract (k + K) s.size := by
  have hl : s.data.toList.length = s.size := by simp
  have hz : (s.extract k s.size).size = s.size - k := by simp
  rw [hz, extract_list s k, extract_list s (k + K), extract_list]
  simp only [List.take_of_length_le (Nat.le_of_eq hl)]
  rw [List.take_of_length_le (by simp), List.drop_drop]
theorem ext_zero (s : ByteArray) : s.extract 0 s.size = s := by
  have hl : s.data.toList.length = s.size := by simp
  rw [extract_list, List.take_of_length_le (Nat.le_of_eq hl), List.drop_zero]
theorem rest_get (s : ByteArray) (k : Nat) (h : k < s.size) (h0 : 0 < (s.extract k s.size).size) : (s.extract k s.size)[0]'h0 = s[k]'h := by
  simp [ByteArray.getElem_extract]
/-- What one round gives, where the byte is one of the nine. -/
theorem step_nine (rest : ByteArray) (h0 : 0 < rest.size) (j : Nat) (hj : j < 9) (hc : nine.getD j 0 = rest[0]'h0) :
    Lib.quoteStep T rest = [92, ((letters[j]'hj).toNat : Int)] ∧ (Utf8.decode rest 0).2 = 1 := by
  have ha : (rest[0]'h0).toNat < 128 := by
    rw [← hc]
    have : ∀ j : Fin 9, (nine.getD j.1 0).toNat < 128 := by decide +kernel
    exact this ⟨j, hj⟩
  have hd := decode_ascii rest 0 h0 ha
  have hst : Lib.quoteStep T rest = Lib.escRune T (((rest[0]'h0).toNat : Nat) : Int) := by
    rw [Lib.quoteStep_good T rest (by rw [hd]; simp only []; omega), hd]
  refine ⟨?_, by rw [hd]⟩
  rw [hst, ← hc]
  have h7 : Lib.isPrintR T 7 = false := by kernel_rfl
  have h8 : Lib.isPrintR T 8 = false := by kernel_rfl
  have h12 : Lib.isPrintR T 12 = false := by kernel_rfl
  have h10 : Lib.isPrintR T 10 = false := by kernel_rfl
  have h13 : Lib.isPrintR T 13 = false := by kernel_rfl
  have h9 : Lib.isPrintR T 9 = false := by kernel_rfl
  have h11 : Lib.isPrintR T 11 = false := by kernel_rfl
  have hcases : j = 0 ∨ j = 1 ∨ j = 2 ∨ j = 3 ∨ j = 4 ∨ j = 5 ∨ j = 6 ∨ j = 7 ∨ j = 8 := by omega
  rcases hcases with rfl | rfl | rfl | rfl | rfl | rfl | rfl | rfl | rfl
  · show Lib.escRune T 7 = [92, 97]; simp [Lib.escRune, h7]
  · show Lib.escRune T 8 = [92, 98]; simp [Lib.escRune, h8]
  · show Lib.escRune T 12 = [92, 102]; simp [Lib.escRune, h12]
  · show Lib.escRune T 10 = [92, 110]; simp [Lib.escRune, h10]
  · show Lib.escRune T 13 = [92, 114]; simp [Lib.escRune, h13]
  · show Lib.escRune T 9 = [92, 116]; simp [Lib.escRune, h9]
  · show Lib.escRune T 11 = [92, 118]; simp [Lib.escRune, h11]
  · show Lib.escRune T 34 = [92, 34]; simp [Lib.escRune]
  · show Lib.escRune T 92 = [92, 92]; simp [Lib.escRune]
theorem not_nine {c : UInt8} (h : ∀ j, j < 9 → nine.getD j 0 ≠ c) : c.toNat ≠ 7 ∧ c.toNat ≠ 8 ∧ c.toNat ≠ 12 ∧ c.toNat ≠ 10 ∧ c.toNat ≠ 13 ∧ c.toNat ≠ 9 ∧ c.toNat ≠ 11 ∧ c.toNat ≠ 34 ∧ c.toNat ≠ 92 := by
  have k : ∀ j : Nat, j < 9 → (nine.getD j 0).toNat ≠ c.toNat := fun j hj e => h j hj (UInt8.toNat_inj.1 e)
  have k0 : 7 ≠ c.toNat := k 0 (by omega)
  have k1 : 8 ≠ c.toNat := k 1 (by omega)
  have k2 : 12 ≠ c.toNat := k 2 (by omega)
  have k3 : 10 ≠ c.toNat := k 3 (by omega)
  have k4 : 13 ≠ c.toNat := k 4 (by omega)
  have k5 : 9 ≠ c.toNat := k 5 (by omega)
  have k6 : 11 ≠ c.toNat := k 6 (by omega)
  have k7 : 34 ≠ c.toNat := k 7 (by omega)
  have k8 : 92 ≠ c.toNat := k 8 (by omega)
  omega
/-- What one round gives, by hex digits of the byte. -/
theorem step_hex (rest : ByteArray) (h0 : 0 < rest.size) (hn : ∀ j, j < 9 → nine.getD j 0 ≠ rest[0]'h0)
    (hx : (rest[0]'h0).toNat < 32 ∨ (rest[0]'h0).toNat = 127 ∨ ((Utf8.decode rest 0).2 = 1 ∧ (Utf8.decode rest 0).1 = 65533)) :
    Lib.quoteStep T rest = [92, 120, Lib.hexDigit ((rest[0]'h0).toNat / 16), Lib.hexDigit ((rest[0]'h0).toNat % 16)] ∧ (Utf8.decode rest 0).2 = 1 := by
  by_cases hbad : (Utf8.decode rest 0).2 = 1 ∧ (Utf8.decode rest 0).1 = 65533
  · exact ⟨Lib.quoteStep_bad T rest h0 hbad.1.symm hbad.2.symm, hbad.1⟩
  · have ha : (rest[0]'h0).toNat < 128 := by omega
    have hd := decode_ascii rest 0 h0 ha
    refine ⟨?_, by rw [hd]⟩
    have hst : Lib.quoteStep T rest = Lib.escRune T (((rest[0]'h0).toNat : Nat) : Int) := by
      rw [Lib.quoteStep_good T rest hbad, hd]
    rw [hst]
    have hn' := not_nine hn
    generalize (rest[0]'h0).toNat = n at *
    have hP : Lib.isPrintR T (n : Int) = false := by
      unfold Lib.isPrintR
      rw [if_pos (by omega)]
      unfold Lib.isPrintLatin
      simp
      omega
    rw [Lib.escRune, if_neg (by omega), if_neg (by rw [hP]; simp), if_neg (by omega), if_neg (by omega), if_neg (by omega), if_neg (by omega), if_neg (by omega), if_neg (by omega), if_neg (by omega), if_pos (by omega)]
    simp
/-- What one round gives: the rune as it stands. -/
theorem step_print (rest : ByteArray) (h0 : 0 < rest.size) (hn : ∀ j, j < 9 → nine.getD j 0 ≠ rest[0]'h0)
    (hbad : ¬ ((Utf8.decode rest 0).2 = 1 ∧ (Utf8.decode rest 0).1 = 65533)) (hP : Lib.isPrintR T ((Utf8.decode rest 0).1 : Int) = true) :
    Lib.quoteStep T rest = (rest.data.toList.take (Utf8.decode rest 0).2).map fun c => (c.toNat : Int) := by
  rw [Lib.quoteStep_good T rest hbad, ← encdec rest h0 hbad, Lib.escRune]
  have h34 : ¬ (((Utf8.decode rest 0).1 : Int) = 34 ∨ ((Utf8.decode rest 0).1 : Int) = 92) := by
    intro e
    by_cases ha : (rest[0]'h0).toNat < 128
    · have hd := decode_ascii rest 0 h0 ha
      rw [hd] at e
      have := not_nine hn
      simp only [] at e
      omega
    · have := (decode_high rest 0 h0 (by omega)).1
      omega
  rw [if_neg h34, if_pos hP]
/-- What one round gives: the rune's digits. -/
theorem step_coded (rest : ByteArray) (h0 : 0 < rest.size) (ha : 128 ≤ (rest[0]'h0).toNat)
    (hbad : ¬ ((Utf8.decode rest 0).2 = 1 ∧ (Utf8.decode rest 0).1 = 65533)) (hP : Lib.isPrintR T ((Utf8.decode rest 0).1 : Int) = false) :
    Lib.quoteStep T rest = codedZ (Utf8.decode rest 0).1 := by
  rw [Lib.quoteStep_good T rest hbad]
  have h1 := (decode_high rest 0 h0 ha).1
  have hV := Lib.rune_valid rest
  generalize (Utf8.decode rest 0).1 = R at *
  rw [Lib.escRune, if_neg (by omega), if_neg (by rw [hP]; simp), if_neg (by omega), if_neg (by omega), if_neg (by omega), if_neg (by omega), if_neg (by omega), if_neg (by omega), if_neg (by omega), if_neg (by omega), if_neg (by rw [hV]; simp)]
  unfold codedZ
  by_cases hlt : R < 65536
  · rw [if_pos (by omega), if_pos hlt]; simp
  · rw [if_neg (by omega), if_neg hlt]; simp
theorem ints_cut (s : ByteArray) (k K : Nat) (h : k + K ≤ s.size) : ints (s.extract k (k + K)) = ((s.extract k s.size).data.toList.take K).map fun c => (c.toNat : Int) := by
  have hl : s.data.toList.length = s.size := by simp
  unfold ints
  rw [extract_list, extract_list, List.take_of_length_le (Nat.le_of_eq hl)]
  simp only [List.toList_toArray]
  rw [List.drop_take, show k + K - k = K by omega]
theorem high_of {rest : ByteArray} {R : Nat} {c : UInt8} {P : Prop} (hR : R = (Utf8.decode rest 0).1) (h : R = 65533) (_ : P) (h0 : 0 < rest.size) (hc : rest[0]'h0 = c) : 128 ≤ c.toNat := by
  by_cases ha : (rest[0]'h0).toNat < 128
  · have hd := decode_ascii rest 0 h0 ha
    rw [hd] at hR
    simp only [] at hR
    omega
  · rw [← hc]; omega
theorem high_byte2 {rest : ByteArray} {R : Nat} {c : UInt8} (hR : R = (Utf8.decode rest 0).1) (hP : Lib.isPrintR T (R : Int) = false) (h32 : ¬ c.toNat < 32) (h127 : ¬ c.toNat = 127) (_ : ∀ j, j < 9 → nine.getD j 0 ≠ c) (h0 : 0 < rest.size) (hc : rest[0]'h0 = c) : 128 ≤ c.toNat := by
  by_cases ha : (rest[0]'h0).toNat < 128
  · have hd := decode_ascii rest 0 h0 ha
    rw [hd] at hR
    simp only [] at hR
    rw [hc] at hR ha
    rw [hR] at hP
    unfold Lib.isPrintR at hP
    rw [if_pos (by omega)] at hP
    unfold Lib.isPrintLatin at hP
    simp at hP
    omega
  · rw [← hc]; omega
end Go.Proofs.YtkddmiamdpbgiaaDoor
