/- Infinities; whether a float is one; the reference's finite floats. -/
import Derived.Test.YtndeolcamgnmdaaFltWalkB
import Derived.Test.YtndeolcamgnmdaaNearPlain
namespace Go.Proofs.Ytndeolcamgnmdaa
open Go.RowKit
theorem fw_inf : FW false infR = 9218868437227405312 ∧ FW true infR = 18442240474082181120 := by decide
theorem math_inf (neg : Bool) (w : World) : Calls Try.prog 37 #[.int .i64 (if neg then -1 else 1)] w (FPost (FW neg infR) w) := by
  cases neg with
  | false =>
    rw [fw_inf.1]
    go_enter Try.func37, Try.ntmps37
    go_wp2
    go_ret
    exact ⟨rfl, rfl⟩
  | true =>
    rw [fw_inf.2]
    go_enter Try.func37, Try.ntmps37
    go_wp2
    go_ret
    exact ⟨rfl, rfl⟩
theorem spec_inf (neg : Bool) (w : World) : Calls Try.prog 20 #[.bool neg] w (FPost (FW neg infR) w) := by
  have HI := Lib.hid (math_inf neg w)
  cases neg with
  | false =>
    have HI2 : Hid (Calls Try.prog 37 #[.int .i64 1] w (FPost (FW false infR) w)) := HI.out
    clear HI
    go_enter Try.func20, Try.ntmps20
    go_wp2_with fail
    refine HI2.out.mono ?_
    unfold FPost
    rintro e w' ⟨rfl, rfl⟩
    go_wp2
    go_ret
    exact ⟨rfl, rfl⟩
  | true =>
    have HI2 : Hid (Calls Try.prog 37 #[.int .i64 (-1)] w (FPost (FW true infR) w)) := HI.out
    clear HI
    go_enter Try.func20, Try.ntmps20
    go_wp2_with fail
    refine HI2.out.mono ?_
    unfold FPost
    rintro e w' ⟨rfl, rfl⟩
    go_wp2
    go_ret
    exact ⟨rfl, rfl⟩
/-- A float that is no NaN: whether it is infinite. -/
theorem isinf_fw (neg : Bool) (r : Nat) (h : r ≤ infR) (w : World) : Calls Try.prog 26 #[.float .f64 (FW neg r), .int .i64 0] w (BPost (decide (r = infR)) w) := by
  refine isinf_any neg r (by have : infR < S63 := by decide
                             omega) _ ?_ w
  rcases Nat.lt_or_ge r infR with h1 | h1
  · have hm : (9218868437227405311 : Nat) < infR := by decide
    rw [ord_gt h1 hm]
    have hn : ¬ r = infR := by omega
    have hm2 : (9218868437227405311 : Nat) + 1 = infR := by decide
    rw [decide_eq_false (by omega : ¬ 9218868437227405311 < r), decide_eq_false hn]
  · obtain rfl : r = infR := by omega
    rw [ord_infmax]
    simp
theorem fin_nan (neg : Bool) (r : Nat) (h : r ≤ infR) : (FloatKind.f64.format.order (FW neg r) (FW neg r) != some .eq) = false := by
  rcases Nat.lt_or_ge r infR with h1 | h1
  · show (Ieee.double.order (FW neg r) (FW neg r) != some .eq) = false
    rw [order_fw neg neg h1 h1, bne, cmp_eq]
    simp
  · obtain rfl : r = infR := by omega
    cases neg <;> decide
theorem spec_finite (neg : Bool) (r : Nat) (h : r ≤ infR) (w : World) : Calls Try.prog 9 #[.float .f64 (FW neg r)] w (BPost (!decide (r = infR)) w) := by
  have HN := Lib.hid (isnan_any (FW neg r) false (fin_nan neg r h) w)
  have HI := Lib.hid (isinf_fw neg r h w)
  obtain ⟨x, hx⟩ : ∃ x, x = FW neg r := ⟨_, rfl⟩
  obtain ⟨b, hb⟩ : ∃ b, b = decide (r = infR) := ⟨_, rfl⟩
  rw [← hx] at HN HI ⊢
  rw [← hb] at HI ⊢
  clear hx hb h
  go_enter Try.func9, Try.ntmps9
  go_wp2_with fail
  refine HN.out.mono ?_
  unfold BPost
  rintro e w' ⟨rfl, rfl⟩
  go_wp2_with fail
  refine HI.out.mono ?_
  unfold BPost
  rintro e w' ⟨rfl, rfl⟩
  cases b
  all_goals
    go_wp2
    go_ret
    exact ⟨rfl, rfl⟩
end Go.Proofs.Ytndeolcamgnmdaa
