/- The walk of laws.FnRangeLen: how many numbers a range has. -/
import Derived.Test.YtgajgjjcnahebaaRows
import Derived.Test.YtgajgjjcnahebaaPlain
import Derived.WalkSpells
import Derived.WalkLawsBesides
import Derived.IntWalk
namespace Go.Proofs.Ytgajgjjcnahebaa
open Go.RowKit
def In32 (a : Int) : Prop := -2147483648 ≤ a ∧ a ≤ 2147483647
theorem in32_wrap (a : Int) : In32 (wrap32 a) := by unfold In32 wrap32; omega
set_option maxHeartbeats 400000 in
theorem within32 (a : Int) (w : World) :
    Calls Try.prog 19 #[.int .i64 a] w fun e w' => e = .returned (.int .i64 (wrap32 a)) ∧ w = w' := by
  obtain ⟨h1, h2⟩ := in32_wrap a
  go_enter Try.func19, Try.ntmps19
  go_wp2
  go_ret
  exact ⟨rfl, rfl⟩
def Ranged (w : World) (e : Ending) (w' : World) : Prop :=
  ∃ x y z : Int, In32 x ∧ In32 y ∧ In32 z ∧ z ≠ 0 ∧ e = .returned (.tuple #[.int .i64 x, .int .i64 y, .int .i64 z]) ∧ w = w'
set_option maxHeartbeats 400000 in
theorem ranged (a b c : Int) (w : World) : Calls Try.prog 10 #[.int .i64 a, .int .i64 b, .int .i64 c] w (Ranged w) := by
  by_cases hz : wrap32 c = 0
  · have hz1 : (wrap32 c == 0) = true := by simp [hz]
    have ha := in32_wrap a
    have hb := in32_wrap b
    clear hz
    go_enter Try.func10, Try.ntmps10
    go_wp2_with fail
    refine (within32 _ _).mono ?_; rintro e w' ⟨rfl, rfl⟩
    go_wp2_with fail
    refine (within32 _ _).mono ?_; rintro e w' ⟨rfl, rfl⟩
    go_wp2_with fail
    refine (within32 _ _).mono ?_; rintro e w' ⟨rfl, rfl⟩
    go_wp2
    go_ret3
    exact ⟨_, _, _, ha, hb, by unfold In32; omega, by decide, rfl, rfl⟩
  · have hz1 : (wrap32 c == 0) = false := by simp [hz]
    have ha := in32_wrap a
    have hb := in32_wrap b
    have hc := in32_wrap c
    have Hz := Lib.hid hz
    clear hz
    go_enter Try.func10, Try.ntmps10
    go_wp2_with fail
    refine (within32 _ _).mono ?_; rintro e w' ⟨rfl, rfl⟩
    go_wp2_with fail
    refine (within32 _ _).mono ?_; rintro e w' ⟨rfl, rfl⟩
    go_wp2_with fail
    refine (within32 _ _).mono ?_; rintro e w' ⟨rfl, rfl⟩
    go_wp2
    go_ret3
    exact ⟨_, _, _, ha, hb, hc, Hz.out, rfl, rfl⟩
def cnt (x y z : Int) : Int := if 0 < z ∧ x < y then (y - x + z - 1) / z else if z < 0 ∧ y < x then (x - y - z - 1) / (-z) else 0
theorem cnt_up {d z : Int} (h : 0 < z) : (d - 1) / z + 1 = (d + z - 1) / z := by
  have : d + z - 1 = (d - 1) + z * 1 := by omega
  rw [this, Int.add_mul_ediv_left _ _ (by omega)]
theorem div_range {a b : Int} (ha : 0 ≤ a) (hb : 0 < b) : 0 ≤ a / b ∧ a / b ≤ a := by
  exact ⟨Int.ediv_nonneg ha (by omega), Int.ediv_le_self _ ha⟩
set_option maxHeartbeats 400000 in
theorem spec_count (x y z : Int) (w : World) (hx : In32 x) (hy : In32 y) (hz : In32 z) :
    Calls Try.prog 12 #[.int .i64 x, .int .i64 y, .int .i64 z] w fun e w' => e = .returned (.int .i64 (cnt x y z)) ∧ w = w' := by
  obtain ⟨hx1, hx2⟩ := hx
  obtain ⟨hy1, hy2⟩ := hy
  obtain ⟨hz1, hz2⟩ := hz
  by_cases h0 : 0 < z
  · by_cases h1 : x < y
    · have e := Lib.hid (show cnt x y z = (y - x + z - 1) / z by rw [cnt, if_pos ⟨h0, h1⟩])
      go_enter Try.func12, Try.ntmps12
      go_wp2
      go_ret
      exact ⟨by rw [e.out]; rfl, rfl⟩
    · have e := Lib.hid (show cnt x y z = 0 by rw [cnt, if_neg (by omega), if_neg (by omega)])
      go_enter Try.func12, Try.ntmps12
      go_wp2
      go_ret
      exact ⟨by rw [e.out]; rfl, rfl⟩
  · by_cases h1 : y < x
    · by_cases h2 : z < 0
      · obtain ⟨u, rfl⟩ : ∃ u, z = -u := ⟨-z, by omega⟩
        have h2' : 0 < u := by omega
        have e := Lib.hid (show cnt x y (-u) = (x - y - -u - 1) / u by rw [cnt, if_neg (by omega), if_pos ⟨h2, h1⟩, Int.neg_neg])
        have hk : (x - y - -u - 1) = x - y + u - 1 := by omega
        rw [hk] at e
        clear hk
        go_enter Try.func12, Try.ntmps12
        go_wp2
        go_ret
        exact ⟨by rw [e.out]; rfl, rfl⟩
      · have e := Lib.hid (show cnt x y z = 0 by rw [cnt, if_neg (by omega), if_neg (by omega)])
        go_enter Try.func12, Try.ntmps12
        go_wp2
        go_ret
        exact ⟨by rw [e.out]; rfl, rfl⟩
    · have e := Lib.hid (show cnt x y z = 0 by rw [cnt, if_neg (by omega), if_neg (by omega)])
      by_cases h2 : z < 0
      all_goals
        go_enter Try.func12, Try.ntmps12
        go_wp2
        go_ret
        exact ⟨by rw [e.out]; rfl, rfl⟩
set_option maxHeartbeats 400000 in
theorem range_len (x y z : Int) (w : World) (hx : In32 x) (hy : In32 y) (hz : In32 z) (hz0 : z ≠ 0) :
    Calls Try.prog 27 #[.int .i64 x, .int .i64 y, .int .i64 z] w fun e w' => e = .returned (.int .i64 (cnt x y z)) ∧ w = w' := by
  obtain ⟨hx1, hx2⟩ := hx
  obtain ⟨hy1, hy2⟩ := hy
  obtain ⟨hz1, hz2⟩ := hz
  rcases (show z < 0 ∨ 0 < z by omega) with h0 | h0
  · by_cases h1 : y < x
    · obtain ⟨u, rfl⟩ : ∃ u, z = -u := ⟨-z, by omega⟩
      have h2' : 0 < u := by omega
      have e := Lib.hid (show cnt x y (-u) = (x - 1 - y) / u + 1 by
        rw [cnt, if_neg (by omega), if_pos ⟨h0, h1⟩, show x - 1 - y = (x - y) - 1 by omega, cnt_up (by omega), show x - y - -u - 1 = x - y + u - 1 by omega, Int.neg_neg])
      have g := div_range (a := x - 1 - y) (b := u) (by omega) (by omega)
      obtain ⟨g1, g2⟩ := g
      clear hz0
      go_enter Try.func27, Try.ntmps27
      go_wp2
      go_ret
      exact ⟨by rw [e.out]; rfl, rfl⟩
    · have e := Lib.hid (show cnt x y z = 0 by rw [cnt, if_neg (by omega), if_neg (by omega)])
      clear hz0
      go_enter Try.func27, Try.ntmps27
      go_wp2
      go_ret
      exact ⟨by rw [e.out]; rfl, rfl⟩
  · by_cases h1 : x < y
    · have e := Lib.hid (show cnt x y z = (y - 1 - x) / z + 1 by
        rw [cnt, if_pos ⟨h0, h1⟩, show y - 1 - x = (y - x) - 1 by omega, cnt_up (by omega)])
      have g := div_range (a := y - 1 - x) (b := z) (by omega) (by omega)
      obtain ⟨g1, g2⟩ := g
      clear hz0
      go_enter Try.func27, Try.ntmps27
      go_wp2
      go_ret
      exact ⟨by rw [e.out]; rfl, rfl⟩
    · have e := Lib.hid (show cnt x y z = 0 by rw [cnt, if_neg (by omega), if_neg (by omega)])
      clear hz0
      go_enter Try.func27, Try.ntmps27
      go_wp2
      go_ret
      exact ⟨by rw [e.out]; rfl, rfl⟩
set_option maxHeartbeats 400000 in
theorem impl_range (x y z : Int) (w : World) (hx : In32 x) (hy : In32 y) (hz : In32 z) (hz0 : z ≠ 0) :
    Calls Try.prog 11 #[.int .i64 x, .int .i64 y, .int .i64 z] w fun e w' => e = .returned (.int .i64 (cnt x y z)) ∧ w = w' := by
  go_enter Try.func11, Try.ntmps11
  go_wp2_with (first | (go_at_call 20; go_in) | (go_at_call 27; refine (range_len x y z _ hx hy hz hz0).mono ?_; rintro e w' ⟨rfl, rfl⟩))
  go_ret
  exact ⟨rfl, rfl⟩
theorem impl_three (w : World) :
    Calls Try.prog 11 #[.int .i64 0, .int .i64 3, .int .i64 1] w fun e w' => e = .returned (.int .i64 3) ∧ w = w' :=
  impl_range 0 3 1 w (by unfold In32; decide) (by unfold In32; decide) (by unfold In32; decide) (by decide)
set_option maxHeartbeats 400000 in
theorem range_law (a b c : Int) (w : World) (_ : (Lit.int .i64 a).wf = true) (_ : (Lit.int .i64 b).wf = true) (_ : (Lit.int .i64 c).wf = true) :
    Calls Try.prog 5 #[.int .i64 a, .int .i64 b, .int .i64 c] w fun e w' => e = .returned (.bool true) ∧ Below w.heap.size w w' := by
  go_enter Try.func5, Try.ntmps5
  go_wp2_with fail
  refine (ranged _ _ _ _).mono ?_
  rintro e w' ⟨x, y, z, hx, hy, hz, hz0, rfl, rfl⟩
  have Hz := Lib.hid hz0
  clear hz0
  go_wp2_with fail
  refine (impl_range x y z _ hx hy hz Hz.out).mono ?_
  rintro e w' ⟨rfl, rfl⟩
  go_wp2_with fail
  refine (spec_count x y z _ hx hy hz).mono ?_
  rintro e w' ⟨rfl, rfl⟩
  go_wp2_with fail
  refine (impl_three _).mono ?_
  rintro e w' ⟨rfl, rfl⟩
  go_wp2
  go_ret
  exact ⟨rfl, Below.refl _ _⟩
end Go.Proofs.Ytgajgjjcnahebaa
