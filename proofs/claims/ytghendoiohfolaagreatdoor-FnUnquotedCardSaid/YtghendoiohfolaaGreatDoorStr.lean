/- Small facts on strings and lists of bytes: no program in sight. -/
import Derived.WalkKit
import Derived.Lib.Hide
import Derived.Lib.Strings
namespace Go.Proofs.YtghendoiohfolaaGreatDoor
set_option linter.unusedSimpArgs false
set_option linter.unusedVariables false
set_option linter.unnecessarySimpa false
open Go.RowKit
theorem emp_false {s : ByteArray} (h : 0 < s.size) : s.toList.isEmpty = false := by
  rw [Lib.toList_data]
  have hl : 0 < s.data.toList.length := by simpa using h
  cases hd : s.data.toList with
  | nil => rw [hd] at hl; simp at hl
  | cons a b => rfl
theorem emp_pos {s : ByteArray} (h : s.toList.isEmpty = false) : 1 ≤ s.size := by
  rw [Lib.toList_data] at h
  have hl : s.data.toList.length = s.size := by simp
  cases hd : s.data.toList with
  | nil => rw [hd] at h; simp at h
  | cons a b => rw [hd] at hl; simp at hl; omega
theorem emp_true {s : ByteArray} (h : s.size = 0) : s.toList.isEmpty = true := by
  rw [Lib.toList_data]
  have : s.data.toList = [] := List.eq_nil_of_length_eq_zero (by simpa using h)
  rw [this]; rfl
theorem take_snoc (s : ByteArray) (k : Nat) (h : k < s.size) : s.data.toList.take (k + 1) = s.data.toList.take k ++ [s[k]] := by
  rw [List.take_succ_eq_append_getElem (by simpa using h)]; rfl
theorem take_all (s : ByteArray) (k : Nat) (h : s.size ≤ k) : s.data.toList.take k = s.data.toList := List.take_of_length_le (by simpa using h)
theorem drop_cons (s : ByteArray) (k : Nat) (h : k < s.size) : s.data.toList.drop k = s[k] :: s.data.toList.drop (k + 1) := by
  rw [List.drop_eq_getElem_cons (by simpa using h)]; rfl
theorem mk_toList (s : ByteArray) : (⟨s.data.toList.toArray⟩ : ByteArray) = s := by cases s; simp
theorem extract_list (s : ByteArray) (i e : Nat) : s.extract i e = ⟨((s.data.toList.take e).drop i).toArray⟩ := by
  apply ByteArray.ext
  simp [Array.ext_iff]
theorem ret_int {k : IntKind} {a b : Int} (h : a = b) : Ending.returned (.int k a) = .returned (.int k b) := by rw [h]
theorem ret_bool {a b : Bool} (h : a = b) : Ending.returned (.bool a) = .returned (.bool b) := by rw [h]
theorem bcell {W w1 : World} (hb : Below W.heap.size W w1) : (∀ b o, b < W.heap.size → w1.cell? ⟨b, o, none⟩ = W.cell? ⟨b, o, none⟩) ∧ (∀ b o, b < W.heap.size → w1.frozen? ⟨b, o, none⟩ = W.frozen? ⟨b, o, none⟩) :=
  ⟨fun b o h => hb.cell (p := ⟨b, o, none⟩) h, fun b o h => hb.frozen (p := ⟨b, o, none⟩) h⟩
end Go.Proofs.YtghendoiohfolaaGreatDoor
