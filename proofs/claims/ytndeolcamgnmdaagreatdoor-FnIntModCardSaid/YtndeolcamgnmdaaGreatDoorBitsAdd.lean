/- Sums and differences of two words with a carry. -/
import Derived.Test.YtndeolcamgnmdaaGreatDoorModBaseE
import Derived.Laws.Externs
set_option linter.unusedVariables false
set_option linter.unusedSimpArgs false
set_option linter.unnecessarySimpa false
namespace Go.Proofs.YtndeolcamgnmdaaGreatDoor
open Go.RowKit
theorem W64_lit : ((W64 : Nat) : Int) = 18446744073709551616 := rfl
theorem add64_run (x y c : Nat) (hc : c ≤ 1) (w : World) : (callFunc 96 #[.int .u64 (x : Int), .int .u64 (y : Int), .int .u64 (c : Int)]).run Tryz.prog w =
    .ok (.value (.tuple #[.int .u64 (((x + y + c) % W64 : Nat) : Int), .int .u64 (((x + y + c) / W64 : Nat) : Int)])) w := by
  rw [run_callFunc_extern (e := add64Entry) Tryz.func96 (by kernel_rfl) (by kernel_rfl) (by kernel_rfl) (by kernel_rfl), run_add64 (x : Int) (y : Int) (c : Int) (by omega) (by omega) (by omega) (by omega)]
  simp only [Result.andThen]
  rw [Int.natCast_emod, Int.natCast_ediv, W64_lit, Int.natCast_add, Int.natCast_add]
def bor (x y b : Nat) : Nat := if x < y + b then 1 else 0
theorem sub64_run (x y c : Nat) (hx : x < W64) (hy : y < W64) (hc : c ≤ 1) (w : World) : (callFunc 98 #[.int .u64 (x : Int), .int .u64 (y : Int), .int .u64 (c : Int)]).run Tryz.prog w =
    .ok (.value (.tuple #[.int .u64 (((x + W64 - y - c) % W64 : Nat) : Int), .int .u64 ((bor x y c : Nat) : Int)])) w := by
  have key : ∀ k : Nat, k ≤ 1 → ((Extern.MathBitsCarry.rows.getD 1 ("", fun _ => pure undef)).2 #[.int .u64 (x : Int), .int .u64 (y : Int), .int .u64 (k : Int)]).run Tryz.prog w =
      .ok (Extern.MathBitsCarry.pair ((x + Extern.MathBitsCarry.m64 - y - k) % Extern.MathBitsCarry.m64) (if x < y + k then 1 else 0)) w := by
    intro k hk
    have : k = 0 ∨ k = 1 := by omega
    rcases this with rfl | rfl <;> rfl
  rw [run_callFunc_extern (e := (Extern.MathBitsCarry.rows.getD 1 ("", fun _ => pure undef)).2) Tryz.func98 (by kernel_rfl) (by kernel_rfl) (by kernel_rfl) (by kernel_rfl), key c hc]
  rfl
theorem bits_add (x y c : Nat) (hc : c ≤ 1) (w : World) :
    Calls Tryz.prog 77 #[.int .u64 (x : Int), .int .u64 (y : Int), .int .u64 (c : Int)] w fun e w' => e = .returned (.tuple #[.int .u64 (((x + y + c) % W64 : Nat) : Int), .int .u64 (((x + y + c) / W64 : Nat) : Int)]) ∧ w = w' := by
  obtain ⟨s, hs⟩ : ∃ s, s = (x + y + c) % W64 := ⟨_, rfl⟩
  obtain ⟨d, hd⟩ : ∃ d, d = (x + y + c) / W64 := ⟨_, rfl⟩
  have h := fun W => add64_run x y c hc W
  rw [← hs, ← hd] at h
  rw [← hs, ← hd]
  clear hs hd hc
  go_enter Tryz.func77, Tryz.ntmps77
  go_wp2
  go_ret2
  exact ⟨rfl, rfl⟩
theorem bits_sub (x y c : Nat) (hx : x < W64) (hy : y < W64) (hc : c ≤ 1) (w : World) :
    Calls Tryz.prog 79 #[.int .u64 (x : Int), .int .u64 (y : Int), .int .u64 (c : Int)] w fun e w' => e = .returned (.tuple #[.int .u64 (((x + W64 - y - c) % W64 : Nat) : Int), .int .u64 ((bor x y c : Nat) : Int)]) ∧ w = w' := by
  obtain ⟨s, hs⟩ : ∃ s, s = (x + W64 - y - c) % W64 := ⟨_, rfl⟩
  obtain ⟨d, hd⟩ : ∃ d, d = bor x y c := ⟨_, rfl⟩
  have h := fun W => sub64_run x y c hx hy hc W
  rw [← hs, ← hd] at h
  rw [← hs, ← hd]
  clear hs hd hx hy hc
  go_enter Tryz.func79, Tryz.ntmps79
  go_wp2
  go_ret2
  exact ⟨rfl, rfl⟩
end Go.Proofs.YtndeolcamgnmdaaGreatDoor
