/- Scalars as the package's values. -/
import Derived.Test.YthoemgnfklhgjaaGreatDoorSteps
import Derived.Test.YthoemgnfklhgjaaGreatDoorImplWhole
namespace Go.Proofs.YthoemgnfklhgjaaGreatDoor
open Go.RowKit
attribute [local go_sem ↓] Go.wp_at_zero Go.wp_at_succ
/-- The package's value of a scalar. -/
def sv : Sc → Value
  | .none => .iface 102 (.int .u8 0)
  | .int n => .iface 108 (.agg #[.int .i64 n, .pointer none])
  | .str t => .iface 63 (.string t)
def kindOf : Sc → Int
  | .none => 0
  | .int _ => 2
  | .str _ => 4
theorem small_in {n : Int} (h : -2147483648 ≤ n ∧ n ≤ 2147483647) : smallB n = true := by
  unfold smallB
  simp
  omega
set_option maxRecDepth 100000 in
set_option maxHeartbeats 4000000 in
theorem scalar_any (B : Nat) (v : Value) (s : Sc) (w : World) (hv : PVal w B v s) (hs : s.ok) :
    Calls Tryz.prog 43 #[.int .i64 (kindOf s), v] w fun e w' => e = .returned (.tuple #[sv s, .bool true]) ∧ Below w.heap.size w w' := by
  cases s with
  | none =>
    have hv' : v = .agg #[.int .i64 0, .bool false, .slice none 0 0, .int .u64 0, .string ⟨#[]⟩, .slice none 0 0] := hv
    subst hv'
    have HB := Lib.hid ((Below.refl w.heap.size w).alloc (Nat.le_refl _) (.cells #[.int .i64 0, .bool false, .slice none 0 0, .int .u64 0, .string ⟨#[]⟩, .slice none 0 0] 28))
    unfold kindOf
    clear hv hs
    go_enter Tryz.func43, Tryz.ntmps43
    go_wp2
    go_ret2
    exact ⟨rfl, HB.out⟩
  | str t =>
    have hv' : v = .agg #[.int .i64 4, .bool false, .slice none 0 0, .int .u64 0, .string t, .slice none 0 0] := hv
    subst hv'
    have HB := Lib.hid ((Below.refl w.heap.size w).alloc (Nat.le_refl _) (.cells #[.int .i64 4, .bool false, .slice none 0 0, .int .u64 0, .string t, .slice none 0 0] 28))
    unfold kindOf
    clear hv hs
    go_enter Tryz.func43, Tryz.ntmps43
    go_wp2
    go_ret2
    exact ⟨rfl, HB.out⟩
  | int n =>
    obtain ⟨neg, l, hi, hn⟩ := hv
    have hs' : -2147483648 ≤ n ∧ n ≤ 2147483647 := hs
    obtain ⟨vs, hv, ho, hh, hng⟩ := hi
    have hsi : SInt w B (.agg #[.bool neg, vs]) neg l := ⟨vs, rfl, ho, hh, hng⟩
    have hl := intOf2_len (sint_head hsi) hn (by omega) (by omega)
    obtain ⟨g, c, hvs, _, _, _, _⟩ := ho.form
    obtain ⟨r, hr⟩ : ∃ r, r = l.length := ⟨_, rfl⟩
    rw [← hr] at hvs
    subst hvs
    subst hv
    have hb0 := (Below.refl w.heap.size w).alloc (Nat.le_refl _) (.cells #[.int .i64 2, .bool neg, .slice (some ⟨g, 0, none⟩) r c, .int .u64 0, .string ⟨#[]⟩, .slice none 0 0] 28)
    have HB := Lib.hid hb0
    have hiv : IVal w B (.agg #[.int .i64 2, .bool neg, .slice (some ⟨g, 0, none⟩) r c, .int .u64 0, .string ⟨#[]⟩, .slice none 0 0]) neg l := ⟨_, rfl, ho, hh, hng⟩
    have HW := Lib.hid (impl_whole B _ neg l _ (hiv.below hb0) (by omega))
    have HN := Lib.hid hn
    have HS := Lib.hid (small_in hs')
    unfold kindOf
    clear hs hs' ho hh hng hsi hl hr hb0 hiv hn
    go_enter Tryz.func43, Tryz.ntmps43
    go_wp2_with fail
    refine HW.out.mono ?_
    rintro e w1 ⟨v1, rfl, hsi, hb1⟩
    rw [HN.out] at hsi
    rcases hsi with ⟨_, hv1⟩ | ⟨h1, _⟩
    · subst hv1
      have HB1 := Lib.hid (HB.out.trans (hb1.mono (by simp)))
      clear hb1
      go_wp2
      go_ret2
      exact ⟨rfl, HB1.out⟩
    · exfalso
      rw [HS.out] at h1
      exact absurd h1 (by simp)
end Go.Proofs.YthoemgnfklhgjaaGreatDoor
