/- The reference's place of a byte among the nine that have a letter; its code of a rune by digits. -/
import Derived.Test.YtkddmiamdpbgiaaDoorQBuf
import Derived.Test.YtkddmiamdpbgiaaDoorQEncDec
namespace Go.Proofs.YtkddmiamdpbgiaaDoor
open Go.RowKit
/-- The nine. -/
def nine : List UInt8 := [7, 8, 12, 10, 13, 9, 11, 34, 92]
def nineB : ByteArray := ⟨#[7, 8, 12, 10, 13, 9, 11, 34, 92]⟩
theorem nine_cut (k : Nat) (c : UInt8) (hk : k < 9) : ((nineB.extract k (k + 1)).toList == (ByteArray.mk #[c]).toList) = decide (nine.getD k 0 = c) := by
  have h : ∀ k : Fin 9, nineB.extract k.1 (k.1 + 1) = ByteArray.mk #[nine.getD k.1 0] := by decide +kernel
  rw [h ⟨k, hk⟩, Lib.toList_data, Lib.toList_data, Bool.eq_iff_iff]
  simp
theorem nine_inj (i j : Nat) (hi : i < 9) (hj : j < 9) (h : nine.getD i 0 = nine.getD j 0) : i = j := by
  have : ∀ i j : Fin 9, nine.getD i.1 0 = nine.getD j.1 0 → i = j := by decide +kernel
  have := this ⟨i, hi⟩ ⟨j, hj⟩ h
  simpa using congrArg Fin.val this
def PlaceOf (c : UInt8) (r : Int) : Prop := (∃ j : Nat, j < 9 ∧ nine.getD j 0 = c ∧ r = j) ∨ ((∀ j, j < 9 → nine.getD j 0 ≠ c) ∧ r = -1)
def PlacePost (c : UInt8) (w : World) (e : Ending) (w' : World) : Prop := ∃ r : Int, PlaceOf c r ∧ e = .returned (.int .i64 r) ∧ w = w'
set_option maxHeartbeats 1000000 in
theorem place_nine (c : UInt8) (w : World) :
    Calls Tryd.prog 22 #[.string nineB, .string ⟨#[c]⟩] w (PlacePost c w) := by
  obtain ⟨p, hp⟩ : ∃ p : ByteArray, p = ⟨#[c]⟩ := ⟨_, rfl⟩
  obtain ⟨n9, hn9⟩ : ∃ q : ByteArray, q = nineB := ⟨_, rfl⟩
  have hps : p.size = 1 := by rw [hp]; rfl
  have hns : n9.size = 9 := by rw [hn9]; rfl
  rw [← hp, ← hn9]
  have HP := Lib.hid hp
  have HN := Lib.hid hn9
  clear hp hn9
  go_enter Tryd.func22, Tryd.ntmps22
  go_wp2_with fail
  go_loop [5] (fun i => ∃ k : Nat, k ≤ 9 ∧ i = .int .i64 k ∧ Hid (∀ j, j < k → nine.getD j 0 ≠ c)) (fun i => 9 - (intOf i).toNat)
  case atStart => exact ⟨0, by omega, rfl, fun j hj => by omega⟩
  case round =>
    obtain ⟨k, hk, rfl, hnot⟩ := hrel
    by_cases hlt : k < 9
    · have hcut := nine_cut k c hlt
      rw [← HP.out, ← HN.out] at hcut
      have hle : decide ((k : Int) + 1 ≤ 9) = true := by simp; omega
      by_cases he : nine.getD k 0 = c
      · have ht : ((n9.extract k (k + 1)).toList == p.toList) = true := by rw [hcut]; simpa using he
        clear hcut
        have HE := Lib.hid he
        clear he
        go_wp2
        go_ret
        exact ⟨(k : Int), .inl ⟨k, hlt, HE.out, rfl⟩, rfl, rfl⟩
      · have ht : ((n9.extract k (k + 1)).toList == p.toList) = false := by rw [hcut]; simpa using he
        clear hcut
        have HE := Lib.hid he
        clear he
        go_wp2
        go_round
        case rel => exact ⟨k + 1, by omega, by go_num, fun j hj => by
          by_cases hjk : j < k
          · exact hnot.out j hjk
          · obtain rfl : j = k := by omega
            exact HE.out⟩
        case measure => simp [intOf]; omega
    · obtain rfl : k = 9 := by omega
      go_wp2
      go_ret
      exact ⟨-1, .inr ⟨hnot.out, rfl⟩, rfl, rfl⟩
end Go.Proofs.YtkddmiamdpbgiaaDoor
