/- Where a part stands first in a text: the package's own search (texts up to 1000 bytes). -/
import Derived.Test.YteibkaonofkcbaaGreatDoorOwn
import Derived.Test.YteibkaonofkcbaaGreatDoorRows
import Derived.Test.YteibkaonofkcbaaGreatDoorChecked
import Derived.Test.YteibkaonofkcbaaGreatDoorRepPlain
namespace Go.Proofs.YteibkaonofkcbaaGreatDoor
open Go.RowKit
theorem part_eq (s p : ByteArray) (i j : Nat) (hj : i + p.size = j) (hjs : j ≤ s.size) : ((s.extract i j).toList == p.toList) = decide ((s.data.toList.drop i).take p.size = p.data.toList) := by
  rw [extract_list, List.drop_take]
  have h : (⟨((s.data.toList.drop i).take (j - i)).toArray⟩ : ByteArray).toList = (s.data.toList.drop i).take (j - i) := by simp [ByteArray.toList_eq]
  rw [h, ByteArray.toList_eq, show j - i = p.size by omega]
  rw [Bool.eq_iff_iff]; simp
/-- r is the first place of p in l, or -1. -/
def IdxAt (p l : List UInt8) (r : Int) : Prop := (r = -1 ∧ ∀ j, (l.drop j).take p.length ≠ p) ∨ ∃ i : Nat, r = (i : Int) ∧ i + p.length ≤ l.length ∧ (∀ j, j < i → (l.drop j).take p.length ≠ p) ∧ (l.drop i).take p.length = p
set_option maxRecDepth 20000 in
set_option maxHeartbeats 4000000 in
theorem zz_index (s p : ByteArray) (hs : s.size ≤ 1000) (hp : p.size ≤ 1000) (hp1 : 1 ≤ p.size) (w : World) :
    Calls Tryz.prog 47 #[.string s, .string p] w fun e w' => ∃ r : Int, e = .returned (.int .i64 r) ∧ IdxAt p.data.toList s.data.toList r ∧ w = w' := by
  have HPL : Hid (p.data.toList.length = p.size ∧ s.data.toList.length = s.size) := ⟨by simp, by simp⟩
  go_enter Tryz.func47, Tryz.ntmps47
  go_wp2_with fail
  go_loopw [5] (fun iv wr => ∃ (i : Nat), wr = w ∧ iv = .int .i64 (i : Int) ∧ i ≤ s.size ∧ Hid (∀ j, j < i → (s.data.toList.drop j).take p.size ≠ p.data.toList)) (fun iv _ => s.size + 100 - (intOf iv).toNat)
  case atStart => exact ⟨0, rfl, rfl, Nat.zero_le _, by unfold Hid; intro j hj; omega⟩
  case round =>
    obtain ⟨i, rfl, rfl, his, hr⟩ := hrel
    obtain ⟨j, hj⟩ : ∃ j : Nat, (i : Int) + (p.size : Int) = (j : Int) := ⟨i + p.size, by omega⟩
    have HJ : Hid (i + p.size = j) := by unfold Hid; omega
    by_cases hjs : j ≤ s.size
    · have hd : decide ((j : Int) ≤ (s.size : Int)) = true := by simp; omega
      have hij : i ≤ j := by omega
      by_cases he : (s.data.toList.drop i).take p.size = p.data.toList
      · have hE : ((s.extract i j).toList == p.toList) = true := by rw [part_eq s p i j HJ.out hjs]; simpa using he
        have HE := Lib.hid he
        clear he
        go_wp2
        go_ret
        refine ⟨(i : Int), rfl, .inr ⟨i, rfl, ?_, ?_, ?_⟩, rfl⟩
        · rw [HPL.out.1, HPL.out.2]; have := HJ.out; omega
        · rw [HPL.out.1]; exact hr.out
        · rw [HPL.out.1]; exact HE.out
      · have hE : ((s.extract i j).toList == p.toList) = false := by rw [part_eq s p i j HJ.out hjs]; simpa using he
        have HE := Lib.hid he
        clear he
        go_wp2
        go_roundw
        case rel =>
          refine ⟨i + 1, trivial, by go_num, by have := HJ.out; omega, ?_⟩
          unfold Hid
          intro k hk
          rcases Nat.lt_or_ge k i with h | h
          · exact hr.out k h
          · rw [show k = i by omega]; exact HE.out
        case measure => simp [intOf]; omega
    · have hd : decide ((j : Int) ≤ (s.size : Int)) = false := by simp; omega
      go_wp2
      go_ret
      refine ⟨-1, rfl, .inl ⟨rfl, fun k => ?_⟩, rfl⟩
      rw [HPL.out.1]
      rcases Nat.lt_or_ge k i with h | h
      · exact hr.out k h
      · intro e
        have e2 := congrArg List.length e
        simp at e2
        have := HJ.out
        omega
end Go.Proofs.YteibkaonofkcbaaGreatDoor
