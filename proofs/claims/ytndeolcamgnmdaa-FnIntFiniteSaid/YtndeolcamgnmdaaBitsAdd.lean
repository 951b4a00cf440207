/- Sums and differences of two words with a carry. -/
import Derived.Test.YtndeolcamgnmdaaImplWhole
import Derived.Laws.Externs
namespace Go.Proofs.Ytndeolcamgnmdaa
open Go.RowKit
theorem W64_lit : ((W64 : Nat) : Int) = 18446744073709551616 := rfl
theorem add64_run (x y c : Nat) (hc : c ≤ 1) (w : World) : (callFunc 89 #[.int .u64 (x : Int), .int .u64 (y : Int), .int .u64 (c : Int)]).run Try.prog w =
    .ok (.value (.tuple #[.int .u64 (((x + y + c) % W64 : Nat) : Int), .int .u64 (((x + y + c) / W64 : Nat) : Int)])) w := by
  rw [run_callFunc_extern (e := add64Entry) Try.func89 (by kernel_rfl) (by kernel_rfl) (by kernel_rfl) (by kernel_rfl), run_add64 (x : Int) (y : Int) (c : Int) (by omega) (by omega) (by omega) (by omega)]
  simp only [Result.andThen]
  rw [Int.natCast_emod, Int.natCast_ediv, W64_lit, Int.natCast_add, Int.natCast_add]
def bor (x y b : Nat) : Nat := if x < y + b then 1 else 0
theorem bits_add (x y c : Nat) (hc : c ≤ 1) (w : World) :
    Calls Try.prog 86 #[.int .u64 (x : Int), .int .u64 (y : Int), .int .u64 (c : Int)] w fun e w' => e = .returned (.tuple #[.int .u64 (((x + y + c) % W64 : Nat) : Int), .int .u64 (((x + y + c) / W64 : Nat) : Int)]) ∧ w = w' := by
  obtain ⟨s, hs⟩ : ∃ s, s = (x + y + c) % W64 := ⟨_, rfl⟩
  obtain ⟨d, hd⟩ : ∃ d, d = (x + y + c) / W64 := ⟨_, rfl⟩
  have h := fun W => add64_run x y c hc W
  rw [← hs, ← hd] at h
  rw [← hs, ← hd]
  clear hs hd hc
  go_enter Try.func86, Try.ntmps86
  go_wp2
  go_ret2
  exact ⟨rfl, rfl⟩
end Go.Proofs.Ytndeolcamgnmdaa
