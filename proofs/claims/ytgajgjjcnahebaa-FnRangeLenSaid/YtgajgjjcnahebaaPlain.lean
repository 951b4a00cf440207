/- Plain facts on texts of digits and on strings: no program in sight. -/
import Derived.WalkKit
import Derived.Lib.Hide
import Derived.Lib.Strings
namespace Go.Proofs.Ytgajgjjcnahebaa
open Go.RowKit
theorem emp_false {s : ByteArray} (h : 0 < s.size) : s.toList.isEmpty = false := by
  rw [Lib.toList_data]
  have hl : 0 < s.data.toList.length := by simpa using h
  cases hd : s.data.toList with
  | nil => rw [hd] at hl; simp at hl
  | cons a b => rfl
theorem emp_pos {s : ByteArray} (h : s.toList.isEmpty = false) : 1 ≤ s.size := by
  rw [Lib.toList_data] at h
  have hl : s.data.toList.length = s.size := by simp
  cases hd : s.data.toList with
  | nil => rw [hd] at h; simp at h
  | cons a b => rw [hd] at hl; simp at hl; omega
theorem emp_true {s : ByteArray} (h : s.size = 0) : s.toList.isEmpty = true := by
  rw [Lib.toList_data]
  have : s.data.toList = [] := List.eq_nil_of_length_eq_zero (by simpa using h)
  rw [this]; rfl
theorem take_snoc (s : ByteArray) (k : Nat) (h : k < s.size) : s.data.toList.take (k + 1) = s.data.toList.take k ++ [s[k]] := by
  rw [List.take_succ_eq_append_getElem (by simpa using h)]; rfl
theorem take_all (s : ByteArray) (k : Nat) (h : s.size ≤ k) : s.data.toList.take k = s.data.toList := List.take_of_length_le (by simpa using h)
def isDig (c : UInt8) : Bool := decide (48 ≤ (c.toNat : Int)) && decide ((c.toNat : Int) ≤ 57)
def allD (l : List UInt8) : Bool := l.all isDig
def digw (l : List UInt8) : Int := l.foldl (fun n c => wrap64 (wrap64 (n * 10) + (((c.toNat : Int) - 48) % 256))) 0
theorem allD_snoc (s : ByteArray) (k : Nat) (h : k < s.size) : allD (s.data.toList.take (k + 1)) = (allD (s.data.toList.take k) && isDig s[k]) := by
  rw [take_snoc s k h]; simp [allD, List.all_append]
theorem digw_snoc (s : ByteArray) (k : Nat) (h : k < s.size) : digw (s.data.toList.take (k + 1)) = wrap64 (wrap64 (digw (s.data.toList.take k) * 10) + (((s[k].toNat : Int) - 48) % 256)) := by
  rw [take_snoc s k h]; simp [digw, List.foldl_append]
theorem dig_range {c : UInt8} (h : isDig c = true) : (48 : Int) ≤ c.toNat ∧ (c.toNat : Int) ≤ 57 := by
  simp [isDig] at h; omega
theorem dig_not {c : UInt8} (h : isDig c = false) : (9 : Int) < ((c.toNat : Int) - 48) % 256 := by
  have hc := c.toNat_lt
  simp [isDig] at h; omega
theorem dig_no {c : UInt8} (h : isDig c = false) (h2 : (48 : Int) ≤ c.toNat) : ¬ (c.toNat : Int) ≤ 57 := by
  simp [isDig] at h; omega
theorem digw_bound (s : ByteArray) : ∀ k, k ≤ s.size → k ≤ 18 → allD (s.data.toList.take k) = true → 0 ≤ digw (s.data.toList.take k) ∧ digw (s.data.toList.take k) < 10 ^ k
  | 0, _, _, _ => by simp [digw]
  | k + 1, hk, h18, ha => by
    rw [allD_snoc s k hk] at ha
    rw [digw_snoc s k hk]
    simp only [Bool.and_eq_true] at ha
    obtain ⟨h1, h2⟩ := digw_bound s k (by omega) (by omega) ha.1
    obtain ⟨h3, h4⟩ := dig_range ha.2
    have hp : (10 : Int) ^ k ≤ 10 ^ 17 := by
      have : (10 : Nat) ^ k ≤ 10 ^ 17 := Nat.pow_le_pow_right (by omega) (by omega)
      exact_mod_cast this
    have hp1 : (10 : Int) ^ (k + 1) = 10 ^ k * 10 := by rw [Int.pow_succ]
    rw [hp1]
    generalize (10 : Int) ^ k = p at *
    generalize digw (s.data.toList.take k) = n at *
    have e1 : ((s[k].toNat : Int) - 48) % 256 = (s[k].toNat : Int) - 48 := by omega
    have e2 : wrap64 (n * 10) = n * 10 := by simp only [wrap64]; omega
    rw [e1, e2]
    generalize (s[k].toNat : Int) = c at *
    have e3 : wrap64 (n * 10 + (c - 48)) = n * 10 + (c - 48) := by simp only [wrap64]; omega
    rw [e3]
    omega
end Go.Proofs.Ytgajgjjcnahebaa
