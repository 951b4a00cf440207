/- The walk of laws.FnBytesHash: the hash of bytes is there, and the same each time. -/
import Derived.Test.YtgajgjjcnahebaaRows
import Derived.Test.YtgajgjjcnahebaaPlain
import Derived.WalkSpells
import Derived.WalkLawsBesides
namespace Go.Proofs.Ytgajgjjcnahebaa
open Go.RowKit
def hashStep (h : Int) (c : UInt8) : Int := bits .xor .u32 h ((c.toNat : Int) % 4294967296) * 16777619 % 4294967296
def hashOf (l : List UInt8) : Int := l.foldl hashStep 2166136261
theorem hash_snoc (s : ByteArray) (k : Nat) (h : k < s.size) : hashOf (s.data.toList.take (k + 1)) = hashStep (hashOf (s.data.toList.take k)) s[k] := by
  rw [take_snoc s k h]; simp [hashOf, List.foldl_append]
set_option maxHeartbeats 400000 in
theorem soft (s : ByteArray) (hs : s.size ≤ 2147483647) (w : World) :
    Calls Try.prog 32 #[.string s] w fun e w' => e = .returned (.int .u32 (hashOf s.data.toList)) ∧ w = w' := by
  go_enter Try.func32, Try.ntmps32
  go_wp2
  go_loop [3, 4] (fun h i => ∃ k : Nat, k ≤ s.size ∧ i = .int .i64 k ∧ h = .int .u32 (hashOf (s.data.toList.take k))) (fun _ i => s.size - (intOf i).toNat)
  case atStart => exact ⟨0, Nat.zero_le _, rfl, rfl⟩
  case round =>
    obtain ⟨k, hk, rfl, rfl⟩ := hrel
    by_cases hlt : k < s.size
    · have hS := hash_snoc s k hlt
      have HS := Lib.hid hS
      clear hS
      generalize hashOf (s.data.toList.take k) = n at *
      go_wp2
      go_round
      case rel => exact ⟨k + 1, by omega, by go_num, by rw [HS.out]; unfold hashStep; with_reducible rfl⟩
      case measure => simp [intOf]; omega
    · have HL := Lib.hid (take_all s k (by omega))
      go_wp2
      go_ret
      exact ⟨by rw [HL.out]; rfl, rfl⟩
set_option maxHeartbeats 400000 in
theorem bytesHash (s : ByteArray) (hs : s.size ≤ 2147483647) (w : World) :
    Calls Try.prog 13 #[.string s] w fun e w' => e = .returned (.tuple #[.int .u32 (hashOf s.data.toList), .bool true]) ∧ w = w' := by
  go_enter Try.func13, Try.ntmps13
  go_wp2_with (first | (go_at_call 22; go_in) | (go_at_call 28; go_in) | (go_at_call 30; go_in) | (go_at_call 21; go_in) | (go_at_call 32; refine (soft s hs _).mono ?_; rintro e w' ⟨rfl, rfl⟩))
  go_ret2
  exact ⟨rfl, rfl⟩
set_option maxHeartbeats 400000 in
theorem bytesHash_law (s : ByteArray) (w : World) (hs : s.size ≤ maxLen) :
    Calls Try.prog 6 #[.string s] w fun e w' => e = .returned (.bool true) ∧ Below w.heap.size w w' := by
  unfold maxLen at hs
  by_cases h : 2147483647 < s.size
  · go_enter Try.func6, Try.ntmps6
    go_wp2
    go_ret
    exact ⟨rfl, Below.refl _ _⟩
  · go_enter Try.func6, Try.ntmps6
    go_wp2_with (go_at_call 13; refine (bytesHash s (by omega) _).mono ?_; rintro e w' ⟨rfl, rfl⟩)
    go_ret
    exact ⟨rfl, Below.refl _ _⟩
end Go.Proofs.Ytgajgjjcnahebaa
