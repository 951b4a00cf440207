/- Two places that are alike: their comparison. -/
import Derived.Test.YtkddmiamdpbgiaaPlcPlain
import Derived.ChangeKeysEq
namespace Go.Proofs.Ytkddmiamdpbgiaa
@[go_sem] theorem run_two_same (w : World) (a b : Int) : (Op.equalIn 10000 48 (.agg #[.int .i32 a, .int .i32 b]) (.agg #[.int .i32 a, .int .i32 b])).run Try.prog w = .ok true w := by
  have hu : Try.prog.underlying 48 = some (.array 2 21) := by kernel_rfl
  obtain ⟨i, hi⟩ : ∃ i, Try.prog.info? 21 = some i := by
    have hs : (Try.prog.info? 21).isSome = true := by kernel_rfl
    exact Option.isSome_iff_exists.1 hs
  have hc : Try.prog.cellsOf 21 = 1 := by kernel_rfl
  have h32 : Try.prog.underlying 21 = some (.int .i32) := by kernel_rfl
  rw [show (10000 : Nat) = 9999 + 1 from rfl, run_equalIn_array w 9999 _ _ hu hi, hc]
  rw [show List.range 2 = [0, 1] from rfl]
  have hk : Try.prog.plainKey 21 = true := by kernel_rfl
  have p0 := run_part_plain (P := Try.prog) (w := w) hk (xs := #[.int .i32 a, .int .i32 b]) (off := 0) (v := .int .i32 a) rfl
  have p1 := run_part_plain (P := Try.prog) (w := w) hk (xs := #[.int .i32 a, .int .i32 b]) (off := 1) (v := .int .i32 b) rfl
  have e0 := run_equalIn_int (P := Try.prog) w 9998 21 .i32 .i32 a a h32
  have e1 := run_equalIn_int (P := Try.prog) w 9998 21 .i32 .i32 b b h32
  simp only [Op.eqItems, Sem.run_bind, Nat.zero_mul, Nat.one_mul, p0, p1, e0, e1, Result.andThen_ok, beq_self_eq_true, Bool.not_true, Bool.false_eq_true, if_false, Sem.run_pure]
end Go.Proofs.Ytkddmiamdpbgiaa
