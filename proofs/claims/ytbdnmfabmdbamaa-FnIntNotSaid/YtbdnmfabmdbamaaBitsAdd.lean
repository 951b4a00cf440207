/- Sums and differences of two words with a carry. -/
import Derived.Test.YtbdnmfabmdbamaaIntSign
import Derived.Laws.Externs
namespace Go.Proofs.Ytbdnmfabmdbamaa
open Go.RowKit
theorem W64_lit : ((W64 : Nat) : Int) = 18446744073709551616 := rfl
theorem add64_run (x y c : Nat) (hc : c ≤ 1) (w : World) : (callFunc 126 #[.int .u64 (x : Int), .int .u64 (y : Int), .int .u64 (c : Int)]).run Try.prog w =
    .ok (.value (.tuple #[.int .u64 (((x + y + c) % W64 : Nat) : Int), .int .u64 (((x + y + c) / W64 : Nat) : Int)])) w := by
  rw [run_callFunc_extern (e := add64Entry) Try.func126 (by kernel_rfl) (by kernel_rfl) (by kernel_rfl) (by kernel_rfl), run_add64 (x : Int) (y : Int) (c : Int) (by omega) (by omega) (by omega) (by omega)]
  simp only [Result.andThen]
  rw [Int.natCast_emod, Int.natCast_ediv, W64_lit, Int.natCast_add, Int.natCast_add]
def bor (x y b : Nat) : Nat := if x < y + b then 1 else 0
theorem sub64_run (x y c : Nat) (hx : x < W64) (hy : y < W64) (hc : c ≤ 1) (w : World) : (callFunc 124 #[.int .u64 (x : Int), .int .u64 (y : Int), .int .u64 (c : Int)]).run Try.prog w =
    .ok (.value (.tuple #[.int .u64 (((x + W64 - y - c) % W64 : Nat) : Int), .int .u64 ((bor x y c : Nat) : Int)])) w := by
  have key : ∀ k : Nat, k ≤ 1 → ((Extern.MathBitsCarry.rows.getD 1 ("", fun _ => pure undef)).2 #[.int .u64 (x : Int), .int .u64 (y : Int), .int .u64 (k : Int)]).run Try.prog w =
      .ok (Extern.MathBitsCarry.pair ((x + Extern.MathBitsCarry.m64 - y - k) % Extern.MathBitsCarry.m64) (if x < y + k then 1 else 0)) w := by
    intro k hk
    have : k = 0 ∨ k = 1 := by omega
    rcases this with rfl | rfl <;> rfl
  rw [run_callFunc_extern (e := (Extern.MathBitsCarry.rows.getD 1 ("", fun _ => pure undef)).2) Try.func124 (by kernel_rfl) (by kernel_rfl) (by kernel_rfl) (by kernel_rfl), key c hc]
  rfl
theorem bits_add (x y c : Nat) (hc : c ≤ 1) (w : World) :
    Calls Try.prog 114 #[.int .u64 (x : Int), .int .u64 (y : Int), .int .u64 (c : Int)] w fun e w' => e = .returned (.tuple #[.int .u64 (((x + y + c) % W64 : Nat) : Int), .int .u64 (((x + y + c) / W64 : Nat) : Int)]) ∧ w = w' := by
  obtain ⟨s, hs⟩ : ∃ s, s = (x + y + c) % W64 := ⟨_, rfl⟩
  obtain ⟨d, hd⟩ : ∃ d, d = (x + y + c) / W64 := ⟨_, rfl⟩
  have h := fun W => add64_run x y c hc W
  rw [← hs, ← hd] at h
  rw [← hs, ← hd]
  clear hs hd hc
  go_enter Try.func114, Try.ntmps114
  go_wp2
  go_ret2
  exact ⟨rfl, rfl⟩
theorem bits_sub (x y c : Nat) (hx : x < W64) (hy : y < W64) (hc : c ≤ 1) (w : World) :
    Calls Try.prog 112 #[.int .u64 (x : Int), .int .u64 (y : Int), .int .u64 (c : Int)] w fun e w' => e = .returned (.tuple #[.int .u64 (((x + W64 - y - c) % W64 : Nat) : Int), .int .u64 ((bor x y c : Nat) : Int)]) ∧ w = w' := by
  obtain ⟨s, hs⟩ : ∃ s, s = (x + W64 - y - c) % W64 := ⟨_, rfl⟩
  obtain ⟨d, hd⟩ : ∃ d, d = bor x y c := ⟨_, rfl⟩
  have h := fun W => sub64_run x y c hx hy hc W
  rw [← hs, ← hd] at h
  rw [← hs, ← hd]
  clear hs hd hx hy hc
  go_enter Try.func112, Try.ntmps112
  go_wp2
  go_ret2
  exact ⟨rfl, rfl⟩
end Go.Proofs.Ytbdnmfabmdbamaa
