/- The math package's small functions on floats. -/
import Derived.Test.YtkddmiamdpbgiaaFltOps
import Derived.Test.YtkddmiamdpbgiaaRows
import Derived.Test.YtkddmiamdpbgiaaChecked
import Derived.Lib.Hide
import Derived.WalkLawsBesides
import Derived.Laws.Externs
namespace Go.Proofs.Ytkddmiamdpbgiaa
open Go.RowKit
@[go_sem] theorem Try.toBits (b : Nat) (w : World) : (callFunc 7 #[.float .f64 b]).run Try.prog w = .ok (.value (.int .u64 (b : Int))) w := by
  rw [run_callFunc_extern (e := Extern.MathFloatBits.float64bits) Try.func7 (by kernel_rfl) (by kernel_rfl) (by kernel_rfl) (by kernel_rfl)]; rfl
@[go_sem] theorem Try.ofBits (n : Int) (w : World) : (callFunc 5 #[.int .u64 n]).run Try.prog w = .ok (.value (.float .f64 n.toNat)) w := by
  rw [run_callFunc_extern (e := Extern.MathFloatBits.float64frombits) Try.func5 (by kernel_rfl) (by kernel_rfl) (by kernel_rfl) (by kernel_rfl)]; rfl
def FPost (x : Nat) (w : World) (e : Ending) (w' : World) : Prop := e = .returned (.float .f64 x) ∧ w = w'
def BPost (b : Bool) (w : World) (e : Ending) (w' : World) : Prop := e = .returned (.bool b) ∧ w = w'
theorem abs_any (neg : Bool) (r : Nat) (h : r < S63) (w : World) : Calls Try.prog 41 #[.float .f64 (FW neg r)] w (FPost r w) := by
  have hb := abs_bits neg h
  obtain ⟨x, hx⟩ : ∃ x, x = FW neg r := ⟨_, rfl⟩
  rw [← hx] at hb ⊢
  clear hx h
  go_enter Try.func41, Try.ntmps41
  go_wp2
  go_ret
  exact ⟨rfl, rfl⟩
theorem nan_any (w : World) : Calls Try.prog 40 #[] w (FPost 9221120237041090561 w) := by
  go_enter Try.func40, Try.ntmps40
  go_wp2
  go_ret
  exact ⟨rfl, rfl⟩
theorem isnan_any (x : Nat) (b : Bool) (h : (FloatKind.f64.format.order x x != some .eq) = b) (w : World) : Calls Try.prog 20 #[.float .f64 x] w (BPost b w) := by
  go_enter Try.func20, Try.ntmps20
  go_wp2
  go_ret
  exact ⟨rfl, rfl⟩
/-- IsInf without a sign. -/
theorem isinf_any (neg : Bool) (r : Nat) (hr : r < S63) (b : Bool) (h : (FloatKind.f64.format.order r 9218868437227405311 == some .gt) = b) (w : World) : Calls Try.prog 39 #[.float .f64 (FW neg r), .int .i64 0] w (BPost b w) := by
  have HA := Lib.hid (abs_any neg r hr)
  clear hr
  go_enter Try.func39, Try.ntmps39
  go_wp2_with fail
  refine (HA.out _).mono ?_
  unfold FPost
  rintro e w' ⟨rfl, rfl⟩
  go_wp2
  go_ret
  exact ⟨rfl, rfl⟩
theorem normalize_norm (y : Nat) (hy : y < S63) (h : (FloatKind.f64.format.order y 4503599627370496 == some .lt) = false) (w : World) : Calls Try.prog 56 #[.float .f64 y] w fun e w' => e = .returned (.tuple #[.float .f64 y, .int .i64 0]) ∧ w = w' := by
  have HA := Lib.hid (abs_any false y hy)
  rw [fw_false] at HA
  clear hy
  go_enter Try.func56, Try.ntmps56
  go_wp2_with fail
  refine (HA.out _).mono ?_
  unfold FPost
  rintro e w' ⟨rfl, rfl⟩
  go_wp2
  go_ret2
  exact ⟨rfl, rfl⟩
theorem normalize_den (y z : Nat) (hy : y < S63) (h : (FloatKind.f64.format.order y 4503599627370496 == some .lt) = true) (hm : floatBits .mul .f64 y 4841369599423283200 = some z) (w : World) : Calls Try.prog 56 #[.float .f64 y] w fun e w' => e = .returned (.tuple #[.float .f64 z, .int .i64 (-52)]) ∧ w = w' := by
  have HA := Lib.hid (abs_any false y hy)
  rw [fw_false] at HA
  have hmul := fun W => run_float_arith (P := Try.prog) W .mul 23 .f64 y 4841369599423283200 z hm
  clear hy hm
  go_enter Try.func56, Try.ntmps56
  go_wp2_with fail
  refine (HA.out _).mono ?_
  unfold FPost
  rintro e w' ⟨rfl, rfl⟩
  go_wp2
  go_ret2
  exact ⟨rfl, rfl⟩
/-- A normal word and its exponent. -/
def NormFPost (y : Nat) (w : World) (e : Ending) (w' : World) : Prop := ∃ (z f : Nat) (k : Int), e = .returned (.tuple #[.float .f64 z, .int .i64 k]) ∧ z / B52 = f ∧ z % B52 = fsig y - B52 ∧ (f : Int) + k = (flog y : Int) - 51 ∧ 1 ≤ f ∧ f ≤ 2046 ∧ z < infR ∧ -52 ≤ k ∧ k ≤ 0 ∧ w = w'
theorem normalize_any (y : Nat) (h0 : 0 < y) (hy : y < infR) (w : World) : Calls Try.prog 56 #[.float .f64 y] w (NormFPost y w) := by
  obtain ⟨s1, s2, s3, s4, s5⟩ := fsig_spec h0
  have hS : infR < S63 := by decide
  have hB : (4503599627370496 : Nat) = B52 := rfl
  have hBi : B52 < infR := by decide
  have hord : (FloatKind.f64.format.order y 4503599627370496 == some .lt) = decide (y < B52) := by
    rw [hB]
    show (Ieee.double.order (FW false y) (FW false B52) == _) = _
    rw [order_fw false false hy hBi, cmp_lt]
    unfold sval
    simp only [Bool.false_eq_true, if_false, Int.ofNat_lt, fval_lt]
  by_cases hb : y < B52
  · obtain ⟨n1, n2⟩ := norm_word hy h0 hb
    obtain ⟨_, _, _, m4, m5⟩ := f_norm (e := flog y) (m := fsig y) s1 s2
    refine (normalize_den y _ (by omega) (by rw [hord]; simpa using hb) n1 w).mono ?_
    rintro e w' ⟨rfl, rfl⟩
    obtain ⟨l1, l2⟩ := s5 hb
    exact ⟨_, _, -52, rfl, rfl, m5, by rw [m4]; omega, by omega, by omega, n2, by omega, by omega, rfl⟩
  · obtain ⟨l1, l2⟩ := s4 (by omega)
    refine (normalize_norm y (by omega) (by rw [hord]; simpa using hb) w).mono ?_
    rintro e w' ⟨rfl, rfl⟩
    rcases f_split y with ⟨h1, _⟩ | ⟨h1, h2, h3, h4, h5, h6⟩
    · omega
    · have := fexp_le hy
      exact ⟨_, _, 0, rfl, rfl, by rw [h6, l2], by rw [h5, l1]; omega, by omega, by omega, hy, by omega, by omega, rfl⟩
end Go.Proofs.Ytkddmiamdpbgiaa
