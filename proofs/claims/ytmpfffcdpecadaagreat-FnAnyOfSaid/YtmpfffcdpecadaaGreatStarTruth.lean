/- Whether a value of the package is true. -/
import Derived.Test.YtmpfffcdpecadaaGreatTruthX
import Derived.Test.YtmpfffcdpecadaaGreatIntSign
namespace Go.Proofs.YtmpfffcdpecadaaGreat
open Go.RowKit
attribute [local go_sem ↓] Go.wp_at_zero Go.wp_at_succ
@[go_sem] theorem Tryz.nzS (f : Nat) (w : World) : (binOp .neq 98 (.float .f64 f) (.float .f64 0)).run Tryz.prog w = .ok (.bool (!fz f)) w := by kernel_rfl
theorem none_truth (w : World) : Calls Tryz.prog 157 #[.int .u8 0] w fun e w' => e = .returned (.bool false) ∧ w = w' := by
  go_enter Tryz.func157, Tryz.ntmps157
  go_wp2
  go_ret
  exact ⟨rfl, rfl⟩
theorem bool_truth (b : Bool) (w : World) : Calls Tryz.prog 152 #[.bool b] w fun e w' => e = .returned (.bool b) ∧ w = w' := by
  go_enter Tryz.func152, Tryz.ntmps152
  go_wp2
  go_ret
  exact ⟨rfl, rfl⟩
theorem float_truth (f : Nat) (w : World) : Calls Tryz.prog 170 #[.float .f64 f] w fun e w' => e = .returned (.bool (!fz f)) ∧ w = w' := by
  go_enter Tryz.func170, Tryz.ntmps170
  go_wp2
  go_ret
  exact ⟨rfl, rfl⟩
theorem str_truth (t : ByteArray) (w : World) : Calls Tryz.prog 175 #[.string t] w fun e w' => e = .returned (.bool (decide (0 < t.size))) ∧ w = w' := by
  go_enter Tryz.func175, Tryz.ntmps175
  go_wp2
  go_ret
  exact ⟨ret_bool (by simp), rfl⟩
theorem byt_truth (t : ByteArray) (w : World) : Calls Tryz.prog 180 #[.string t] w fun e w' => e = .returned (.bool (decide (0 < t.size))) ∧ w = w' := by
  go_enter Tryz.func180, Tryz.ntmps180
  go_wp2
  go_ret
  exact ⟨ret_bool (by simp), rfl⟩
theorem SI.shape {w : World} {B : Nat} {v : Value} {n : Int} (h : SI w B v n) : ∃ k p, v = .agg #[.int .i64 k, .pointer p] := by
  rcases h with ⟨_, rfl⟩ | ⟨_, b, neg, ws, rfl, _⟩ <;> exact ⟨_, _, rfl⟩
set_option maxRecDepth 20000 in
theorem int_truth (B : Nat) (v : Value) (n : Int) (w : World) (hv : SI w B v n) : Calls Tryz.prog 163 #[v] w fun e w' => e = .returned (.bool (decide (n ≠ 0))) ∧ Below w.heap.size w w' := by
  obtain ⟨k, p, rfl⟩ := hv.shape
  have HB := Lib.hid ((Below.refl w.heap.size w).alloc (Nat.le_refl _) (.cells #[.int .i64 k, .pointer p] 96))
  have HS := Lib.hid (star_sign B _ n _ (hv.below HB.out))
  obtain ⟨q, hq⟩ : ∃ q, q = sgn n := ⟨_, rfl⟩
  have HT : Hid (decide (n ≠ 0) = !(q == 0)) := by
    rw [hq]
    unfold Hid sgn
    by_cases h1 : n < 0
    · rw [if_pos h1, decide_eq_true (by omega)]; rfl
    · by_cases h2 : n = 0
      · subst h2; rfl
      · rw [if_neg h1, if_neg h2, decide_eq_true h2]; rfl
  unfold SgnPost at HS
  rw [← hq] at HS
  rw [HT.out]
  clear hv hq
  go_enter Tryz.func163, Tryz.ntmps163
  go_wp2_with fail
  refine HS.out.mono ?_
  rintro e w1 ⟨rfl, hb1⟩
  have HB1 := Lib.hid (HB.out.trans (hb1.mono (by simp)))
  clear hb1
  go_wp2
  go_ret
  exact ⟨rfl, HB1.out⟩
end Go.Proofs.YtmpfffcdpecadaaGreat
