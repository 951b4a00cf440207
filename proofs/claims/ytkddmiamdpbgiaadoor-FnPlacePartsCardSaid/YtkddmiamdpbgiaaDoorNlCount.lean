/- The walk of the package's zzCount at a line end, and of the position behind a text. -/
import Derived.Test.YtkddmiamdpbgiaaDoorValid
import Derived.Deep.RegionWith
import Derived.StillTailTactics
namespace Go.Proofs.YtkddmiamdpbgiaaDoor
open Go.RowKit
theorem nls_snoc (s : ByteArray) (k : Nat) (h : k < s.size) : nls (s.data.toList.take (k + 1)) = nls (s.data.toList.take k) + if s[k] = 10 then 1 else 0 := by
  rw [take_snoc s k h, nls_append]
  simp [nls, List.countP_cons]
theorem nl_test (s : ByteArray) (k : Nat) (h : k < s.size) : ((s.extract k (k + 1)).toList == [10]) = (s[k] == 10) := by
  have e : (s.extract k (k + 1)).toList = [s[k]] := by
    rw [Lib.toList_data, extract_list, List.drop_take, show k + 1 - k = 1 by omega, drop_cons s k h]
    rfl
  rw [e]
  by_cases h1 : s[k] = 10
  · rw [h1]; rfl
  · simp [h1]
set_option maxRecDepth 20000 in
set_option maxHeartbeats 800000 in
theorem count_nl (s : ByteArray) (hs : s.size ≤ 2000) (w : World) :
    Calls Tryd.prog 36 #[.string s, .string ⟨#[10]⟩] w fun e w' => e = .returned (.int .i64 (nls s.data.toList)) ∧ w = w' := by
  go_enter Tryd.func36, Tryd.ntmps36
  go_wp2
  go_loop [5, 6] (fun n i => ∃ k : Nat, k ≤ s.size ∧ i = .int .i64 k ∧ n = .int .i64 (nls (s.data.toList.take k))) (fun _ i => s.size - (intOf i).toNat)
  case atStart => exact ⟨0, Nat.zero_le _, rfl, rfl⟩
  case round =>
    obtain ⟨k, hk, rfl, rfl⟩ := hrel
    by_cases hlt : k < s.size
    · have hS := Lib.hid (nls_snoc s k hlt)
      have hT := nl_test s k hlt
      have hb : nls (s.data.toList.take k) ≤ 2000 := by
        have h1 := nls_le (s.data.toList.take k)
        rw [List.length_take] at h1
        omega
      generalize nls (s.data.toList.take k) = n at *
      by_cases h10 : s[k] = 10
      · have hT1 : ((s.extract k (k + 1)).toList == [10]) = true := by rw [hT, h10]; rfl
        have hN := hS.out
        rw [if_pos h10] at hN
        have HN := Lib.hid hN
        clear hT hN h10 hS
        go_wp2
        go_round
        case rel => exact ⟨k + 1, by omega, by go_num, by rw [HN.out]; go_num⟩
        case measure => simp [intOf]; omega
      · have hT1 : ((s.extract k (k + 1)).toList == [10]) = false := by rw [hT]; simpa using h10
        have hN := hS.out
        rw [if_neg h10] at hN
        have HN := Lib.hid hN
        clear hT hN h10 hS
        go_wp2
        go_round
        case rel => exact ⟨k + 1, by omega, by go_num, by rw [HN.out]; go_num⟩
        case measure => simp [intOf]; omega
    · have HL := Lib.hid (take_all s k (by omega))
      go_wp2
      go_ret
      exact ⟨by rw [HL.out]; rfl, rfl⟩
/-- strings.LastIndex at a line end. -/
theorem last_index_nl (s : ByteArray) (hs : s.size ≤ 2000) (h : 10 ∈ s.data.toList) (w : World) :
    Calls Tryd.prog 37 #[.string s, .string ⟨#[10]⟩] w fun e w' => (∃ k : Nat, e = .returned (.int .i64 k) ∧ k < s.size ∧ s.extract (k + 1) s.size = ⟨(tailNl s.data.toList).toArray⟩) ∧ w' = w := by
  obtain ⟨k, h1, h2, h3⟩ := last_nl h
  refine (Tryd.strings_LastIndex s ⟨#[10]⟩ (by omega) w).mono fun e w' ⟨he, hw⟩ => ⟨⟨k, ?_, by simpa using h2, ?_⟩, hw⟩
  · rw [he]
    show Ending.returned (.int .i64 (Lib.lastIndex s.data.toList [10])) = _
    rw [h1]
  · rw [extract_list, take_all s s.size (Nat.le_refl _), h3]
end Go.Proofs.YtkddmiamdpbgiaaDoor
