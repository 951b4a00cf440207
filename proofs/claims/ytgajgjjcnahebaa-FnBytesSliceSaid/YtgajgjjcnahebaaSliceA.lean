/- Walks of the small functions below laws.FnBytesSlice: turn, Ends, bounded, signum. -/
import Derived.Test.YtgajgjjcnahebaaRows
import Derived.Test.YtgajgjjcnahebaaSlicePlain
import Derived.WalkSpells
import Derived.WalkLawsBesides
import Derived.IntWalk
namespace Go.Proofs.Ytgajgjjcnahebaa
open Go.RowKit
def SomeIn (lo hi : Int) (w : World) (e : Ending) (w' : World) : Prop := ∃ r : Int, lo ≤ r ∧ r < hi ∧ e = .returned (.int .i64 r) ∧ w = w'
theorem tmod_bd (a m : Int) (hm : 0 < m) : -m < a.tmod m ∧ a.tmod m < m := by
  constructor
  · have := Int.lt_tmod_of_pos a hm; omega
  · exact Int.tmod_lt_of_pos a hm
set_option maxHeartbeats 400000 in
theorem turn_any (a m : Int) (w : World) (hm : 0 < m) (hm2 : m ≤ 500) : Calls Try.prog 23 #[.int .i64 a, .int .i64 m] w (SomeIn 0 m w) := by
  have h1 := tmod_bd a m hm
  obtain ⟨h1, h2⟩ := h1
  have h0 : ¬ m = 0 := by omega
  have h3 : 0 ≤ a.tmod m + m := by omega
  have h5 := Lib.hid (show 0 ≤ (a.tmod m + m) % m ∧ (a.tmod m + m) % m < m from ⟨Int.emod_nonneg _ h0, Int.emod_lt_of_pos _ hm⟩)
  go_enter Try.func23, Try.ntmps23
  go_wp2
  go_ret
  exact ⟨_, h5.out.1, h5.out.2, rfl, rfl⟩
def EndsPost (n : Int) (w : World) (e : Ending) (w' : World) : Prop := ∃ s t st : Int, OkB n s t st ∧ e = .returned (.tuple #[.int .i64 s, .int .i64 t, .int .i64 st]) ∧ w = w'
set_option maxHeartbeats 400000 in
theorem ends_any (n a b c : Int) (w : World) (h0 : 0 ≤ n) (h1 : n ≤ 400) : Calls Try.prog 14 #[.int .i64 n, .int .i64 a, .int .i64 b, .int .i64 c] w (EndsPost n w) := by
  go_enter Try.func14, Try.ntmps14
  go_wp2_with fail
  refine (turn_any _ _ _ (by omega) (by omega)).mono ?_
  rintro e w' ⟨r, hr0, hr1, rfl, rfl⟩
  by_cases hs : 4 ≤ r
  · go_wp2_with fail
    refine (turn_any _ _ _ (by omega) (by omega)).mono ?_
    rintro e w' ⟨s, hs0, hs1, rfl, rfl⟩
    go_wp2_with fail
    refine (turn_any _ _ _ (by omega) (by omega)).mono ?_
    rintro e w' ⟨t, ht0, ht1, rfl, rfl⟩
    go_wp2
    go_ret3
    exact ⟨s, s + t, r - 4 + 1, by unfold OkB; omega, rfl, rfl⟩
  · go_wp2_with fail
    refine (turn_any _ _ _ (by omega) (by omega)).mono ?_
    rintro e w' ⟨s, hs0, hs1, rfl, rfl⟩
    go_wp2_with fail
    refine (turn_any _ _ _ (by omega) (by omega)).mono ?_
    rintro e w' ⟨t, ht0, ht1, rfl, rfl⟩
    go_wp2
    go_ret3
    exact ⟨s - 1, t - 1, r - 4, by unfold OkB; omega, rfl, rfl⟩
set_option maxHeartbeats 400000 in
theorem bounded_yes (n s t st : Int) (w : World) (h : OkB n s t st) : Calls Try.prog 24 #[.int .i64 n, .int .i64 s, .int .i64 t, .int .i64 st] w fun e w' => e = .returned (.bool true) ∧ w = w' := by
  unfold OkB at h
  rcases h with ⟨h1, h2, h3, h4, h5⟩ | ⟨h1, h2, h3, h4, h5⟩
  · go_enter Try.func24, Try.ntmps24
    go_wp2
    go_ret
    exact ⟨rfl, rfl⟩
  · go_enter Try.func24, Try.ntmps24
    go_wp2
    go_ret
    exact ⟨rfl, rfl⟩
theorem sg_neg {x : Int} (h : x < 0) (h1 : -4611686018427387904 ≤ x) : wrap64 (bits .or .u64 (IntKind.u64.wrap (x / 9223372036854775808)) (-x / 9223372036854775808)) = -1 := by
  have e1 : x / 9223372036854775808 = -1 := by omega
  have e2 : -x / 9223372036854775808 = 0 := by omega
  rw [e1, e2]; decide +kernel
theorem sg_pos {x : Int} (h : 0 < x) (h1 : x ≤ 4611686018427387904) : wrap64 (bits .or .u64 (x / 9223372036854775808) (IntKind.u64.wrap (-x) / 9223372036854775808)) = 1 := by
  have e1 : x / 9223372036854775808 = 0 := by omega
  have e2 : IntKind.u64.wrap (-x) / 9223372036854775808 = 1 := by rw [IntKind.wrap_u64]; omega
  rw [e1, e2]; decide +kernel
theorem ret_int {k : IntKind} {a b : Int} (h : a = b) : Ending.returned (.int k a) = .returned (.int k b) := by rw [h]
def sgRange : Int := 4611686018427387904
theorem sgn_neg {x : Int} (h : x < 0) : sgn x = -1 := by rw [sgn, if_pos h]
theorem sgn_pos {x : Int} (h : 0 < x) : sgn x = 1 := by rw [sgn, if_neg (by omega), if_neg (by omega)]
theorem sgn_zero : sgn 0 = 0 := by rw [sgn, if_neg (by omega), if_pos rfl]
set_option maxHeartbeats 400000 in
theorem signum64_any (x : Int) (w : World) (h1 : -sgRange ≤ x) (h2 : x ≤ sgRange) : Calls Try.prog 31 #[.int .i64 x] w fun e w' => e = .returned (.int .i64 (sgn x)) ∧ w = w' := by
  have h1' : -4611686018427387904 ≤ x := by unfold sgRange at h1; omega
  have h2' : x ≤ 4611686018427387904 := by unfold sgRange at h2; omega
  have H1 := Lib.hid h1
  have H2 := Lib.hid h2
  clear h1 h2
  rcases (show x < 0 ∨ x = 0 ∨ 0 < x by omega) with h | h | h
  · have hs := Lib.hid (sgn_neg h)
    have he := Lib.hid (sg_neg h (by have := H1.out; unfold sgRange at this; omega))
    go_enter Try.func31, Try.ntmps31
    go_wp2
    go_ret
    refine ⟨?_, rfl⟩
    rw [hs.out, ← he.out]; rfl
  · subst h
    go_enter Try.func31, Try.ntmps31
    go_wp2
    go_ret
    have hz : wrap64 (bits .or .u64 0 0) = 0 := by decide +kernel
    refine ⟨?_, rfl⟩
    rw [sgn_zero]; exact ret_int hz
  · have hs := Lib.hid (sgn_pos h)
    have he := Lib.hid (sg_pos h (by have := H2.out; unfold sgRange at this; omega))
    go_enter Try.func31, Try.ntmps31
    go_wp2
    go_ret
    refine ⟨?_, rfl⟩
    rw [hs.out, ← he.out]; rfl
set_option maxHeartbeats 400000 in
theorem signum_any (x : Int) (w : World) (h1 : -1000 ≤ x) (h2 : x ≤ 1000) : Calls Try.prog 29 #[.int .i64 x] w fun e w' => e = .returned (.int .i64 (sgn x)) ∧ w = w' := by
  go_enter Try.func29, Try.ntmps29
  go_wp2_with fail
  refine (signum64_any x _ (by unfold sgRange; omega) (by unfold sgRange; omega)).mono ?_
  rintro e w' ⟨rfl, rfl⟩
  go_wp2
  go_ret
  exact ⟨rfl, rfl⟩
end Go.Proofs.Ytgajgjjcnahebaa
