/- Varints of 7 bits, the lowest first: plain; their length; clip. -/
import Derived.Test.YtkddmiamdpbgiaaOwn
import Derived.Test.YtkddmiamdpbgiaaStr
import Derived.Test.YtkddmiamdpbgiaaRows
import Derived.Test.YtkddmiamdpbgiaaChecked
import Derived.WalkKit
namespace Go.Proofs.Ytkddmiamdpbgiaa
open Go.RowKit
/-- The bytes of a number, 7 bits each, the lowest first; all but the last have the bit 128. -/
def vints (x : Nat) : List Nat := if x < 128 then [x] else (x % 128 + 128) :: vints (x / 128)
termination_by x
decreasing_by omega
theorem vints_small {x : Nat} (h : x < 128) : vints x = [x] := by rw [vints, if_pos h]
theorem vints_big {x : Nat} (h : 128 ≤ x) : vints x = (x % 128 + 128) :: vints (x / 128) := by rw [vints, if_neg (by omega)]
theorem vints_len (k : Nat) : ∀ x, x < 128 ^ (k + 1) → (vints x).length ≤ k + 1 := by
  induction k with
  | zero =>
    intro x hx
    rw [vints_small (by simpa using hx)]
    simp
  | succ k ih =>
    intro x hx
    by_cases h : x < 128
    · rw [vints_small h]; simp
    · rw [vints_big (by omega)]
      have : x / 128 < 128 ^ (k + 1) := by
        rw [Nat.div_lt_iff_lt_mul (by omega)]
        rw [Nat.pow_succ] at hx
        exact hx
      have := ih _ this
      simp; omega
theorem arg_len (x : Nat) (hx : x < 4294967296) (w : World) : Calls Try.prog 33 #[.int .u32 (x : Int)] w fun e w' => e = .returned (.int .i64 ((vints x).length : Int)) ∧ w = w' := by
  have HX := Lib.hid hx
  clear hx
  go_enter Try.func33, Try.ntmps33
  go_wp2_with fail
  go_loop [0, 3] (fun xv nv => ∃ y n : Nat, xv = .int .u32 (y : Int) ∧ nv = .int .i64 (n : Int) ∧ Hid (n + (vints y).length = (vints x).length) ∧ y < 4294967296 ∧ n ≤ 10) (fun xv _ => (intOf xv).toNat)
  case atStart => exact ⟨x, 0, rfl, rfl, by simp [Hid], HX.out, by omega⟩
  case round =>
    obtain ⟨y, n, rfl, rfl, hn, hy, hn10⟩ := hrel
    by_cases h : y < 128
    · have hd : decide (128 ≤ y) = false := by simp; omega
      have hd2 : decide ((128 : Int) ≤ (y : Int)) = false := by simp; omega
      have HS := Lib.hid (vints_small h)
      clear h
      go_wp2
      go_ret
      exact ⟨ret_int (by have := hn.out; rw [HS.out] at this; simp at this; omega), rfl⟩
    · have hd : decide (128 ≤ y) = true := by simp; omega
      have hd2 : decide ((128 : Int) ≤ (y : Int)) = true := by simp; omega
      have HS := Lib.hid (vints_big (x := y) (by omega))
      have hl : (vints x).length ≤ 5 := vints_len 4 x (by have := HX.out; simp; omega)
      have hn9 : n + 1 ≤ 10 := by
        have := hn.out
        rw [HS.out] at this
        simp at this
        omega
      have H9 := Lib.hid hn9
      have HY := Lib.hid (show 128 ≤ y by omega)
      clear h hl hn9
      go_wp2
      go_round
      case rel => exact ⟨y / 128, n + 1, rfl, by go_num, by have := hn.out; rw [HS.out] at this; simp [Hid] at this ⊢; omega, by omega, H9.out⟩
      case measure => have := HY.out; simp [intOf]; omega
/-- The nearest number of a range. -/
def clipped (x lo hi : Int) : Int := if hi < x then hi else if x < lo then lo else x
theorem clip_any (x lo hi : Int) (hlh : lo ≤ hi) (w : World) : Calls Try.prog 44 #[.int .i32 x, .int .i32 lo, .int .i32 hi] w fun e w' => e = .returned (.tuple #[.int .i32 (clipped x lo hi), .bool (decide (clipped x lo hi = x))]) ∧ w = w' := by
  by_cases h1 : hi < x
  · have e1 : clipped x lo hi = hi := by unfold clipped; rw [if_pos h1]
    have e2 : decide (clipped x lo hi = x) = false := by rw [e1]; simp; omega
    rw [e2, e1]
    clear e1 e2
    go_enter Try.func44, Try.ntmps44
    go_wp2
    go_ret2
    exact ⟨rfl, rfl⟩
  · by_cases h2 : x < lo
    · have e1 : clipped x lo hi = lo := by unfold clipped; rw [if_neg h1, if_pos h2]
      have e2 : decide (clipped x lo hi = x) = false := by rw [e1]; simp; omega
      rw [e2, e1]
      clear e1 e2
      go_enter Try.func44, Try.ntmps44
      go_wp2
      go_ret2
      exact ⟨rfl, rfl⟩
    · have e1 : clipped x lo hi = x := by unfold clipped; rw [if_neg h1, if_neg h2]
      have e2 : decide (clipped x lo hi = x) = true := by rw [e1]; simp
      rw [e2, e1]
      clear e1 e2
      go_enter Try.func44, Try.ntmps44
      go_wp2
      go_ret2
      exact ⟨rfl, rfl⟩
end Go.Proofs.Ytkddmiamdpbgiaa
