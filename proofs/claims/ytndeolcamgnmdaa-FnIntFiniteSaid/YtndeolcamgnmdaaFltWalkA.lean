/- The math package's small functions on floats. -/
import Derived.Test.YtndeolcamgnmdaaFltOps
import Derived.Test.YtndeolcamgnmdaaRows
import Derived.Test.YtndeolcamgnmdaaChecked
import Derived.Lib.Hide
import Derived.WalkLawsBesides
import Derived.Laws.Externs
namespace Go.Proofs.Ytndeolcamgnmdaa
open Go.RowKit
@[go_sem] theorem Try.toBits (b : Nat) (w : World) : (callFunc 10 #[.float .f64 b]).run Try.prog w = .ok (.value (.int .u64 (b : Int))) w := by
  rw [run_callFunc_extern (e := Extern.MathFloatBits.float64bits) Try.func10 (by kernel_rfl) (by kernel_rfl) (by kernel_rfl) (by kernel_rfl)]; rfl
@[go_sem] theorem Try.ofBits (n : Int) (w : World) : (callFunc 44 #[.int .u64 n]).run Try.prog w = .ok (.value (.float .f64 n.toNat)) w := by
  rw [run_callFunc_extern (e := Extern.MathFloatBits.float64frombits) Try.func44 (by kernel_rfl) (by kernel_rfl) (by kernel_rfl) (by kernel_rfl)]; rfl
def FPost (x : Nat) (w : World) (e : Ending) (w' : World) : Prop := e = .returned (.float .f64 x) ∧ w = w'
def BPost (b : Bool) (w : World) (e : Ending) (w' : World) : Prop := e = .returned (.bool b) ∧ w = w'
theorem abs_any (neg : Bool) (r : Nat) (h : r < S63) (w : World) : Calls Try.prog 42 #[.float .f64 (FW neg r)] w (FPost r w) := by
  have hb := abs_bits neg h
  obtain ⟨x, hx⟩ : ∃ x, x = FW neg r := ⟨_, rfl⟩
  rw [← hx] at hb ⊢
  clear hx h
  go_enter Try.func42, Try.ntmps42
  go_wp2
  go_ret
  exact ⟨rfl, rfl⟩
theorem isnan_any (x : Nat) (b : Bool) (h : (FloatKind.f64.format.order x x != some .eq) = b) (w : World) : Calls Try.prog 25 #[.float .f64 x] w (BPost b w) := by
  go_enter Try.func25, Try.ntmps25
  go_wp2
  go_ret
  exact ⟨rfl, rfl⟩
/-- IsInf without a sign. -/
theorem isinf_any (neg : Bool) (r : Nat) (hr : r < S63) (b : Bool) (h : (FloatKind.f64.format.order r 9218868437227405311 == some .gt) = b) (w : World) : Calls Try.prog 26 #[.float .f64 (FW neg r), .int .i64 0] w (BPost b w) := by
  have HA := Lib.hid (abs_any neg r hr)
  clear hr
  go_enter Try.func26, Try.ntmps26
  go_wp2_with fail
  refine (HA.out _).mono ?_
  unfold FPost
  rintro e w' ⟨rfl, rfl⟩
  go_wp2
  go_ret
  exact ⟨rfl, rfl⟩
end Go.Proofs.Ytndeolcamgnmdaa
