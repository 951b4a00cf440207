/- Whether a value without parts is true: by the reference, and by the package. -/
import Derived.Test.YtmpfffcdpecadaaGreatScalarX
import Derived.Test.YtmpfffcdpecadaaGreatSpecSign
import Derived.Test.YtmpfffcdpecadaaGreatIntSign
namespace Go.Proofs.YtmpfffcdpecadaaGreat
open Go.RowKit
attribute [local go_sem ↓] Go.wp_at_zero Go.wp_at_succ
def fz (f : Nat) : Bool := FloatKind.f64.format.order f 0 == some .eq
def truthX : Sx → Bool
  | .none => false
  | .bool b => b
  | .int neg l => decide (intOf2 neg l ≠ 0)
  | .float f => !fz f
  | .str t => decide (0 < t.size)
  | .byt t => decide (0 < t.size)
theorem int_zero {neg : Bool} {l : List Nat} (h : l.head? ≠ some 0) : intOf2 neg l = 0 ↔ l = [] := by
  constructor
  · intro he
    have hn : natOf l = 0 := by unfold intOf2 at he; split at he <;> omega
    have := natOf_lenle h 0 (by rw [hn]; decide)
    exact List.eq_nil_of_length_eq_zero (by omega)
  · rintro rfl
    unfold intOf2
    cases neg <;> rfl
@[go_sem] theorem Tryz.nzF (f : Nat) (w : World) : (binOp .neq 65 (.float .f64 f) (.float .f64 0)).run Tryz.prog w = .ok (.bool (!fz f)) w := by kernel_rfl
set_option maxRecDepth 20000 in
theorem fl_any (f : Nat) (w : World) :
    Calls Tryz.prog 28 #[.agg #[.int .i64 3, .bool false, .slice none 0 0, .int .u64 (f : Int), .string ⟨#[]⟩, .slice none 0 0]] w fun e w' => e = .returned (.float .f64 f) ∧ Below w.heap.size w w' := by
  have HB := Lib.hid (val_below w 3 false none 0 0 (f : Int) ⟨#[]⟩)
  go_enter Tryz.func28, Tryz.ntmps28
  go_wp2
  go_ret
  exact ⟨rfl, HB.out⟩
set_option maxRecDepth 100000 in
set_option maxHeartbeats 4000000 in
theorem spec_truth (v : Value) (s : Sx) (w : World) (hv : XVal w 0 v s) :
    Calls Tryz.prog 11 #[v] w fun e w' => e = .returned (.bool (truthX s)) ∧ Below w.heap.size w w' := by
  cases s with
  | none =>
    obtain rfl := hv
    have HB := Lib.hid (val_below w 0 false none 0 0 0 ⟨#[]⟩)
    unfold pv
    go_enter Tryz.func11, Tryz.ntmps11
    go_wp2
    go_ret
    exact ⟨rfl, HB.out⟩
  | bool b =>
    obtain rfl := hv
    unfold pv
    cases b with
    | false =>
      have HB := Lib.hid (val_below w 1 false none 0 0 0 ⟨#[]⟩)
      go_enter Tryz.func11, Tryz.ntmps11
      go_wp2
      go_ret
      exact ⟨rfl, HB.out⟩
    | true =>
      have HB := Lib.hid (val_below w 1 false none 0 0 1 ⟨#[]⟩)
      go_enter Tryz.func11, Tryz.ntmps11
      go_wp2
      go_ret
      exact ⟨rfl, HB.out⟩
  | str t =>
    obtain ⟨rfl, _⟩ := hv
    have HB := Lib.hid (val_below w 4 false none 0 0 0 t)
    unfold pv
    go_enter Tryz.func11, Tryz.ntmps11
    go_wp2
    go_ret
    exact ⟨ret_bool (by simp [truthX]), HB.out⟩
  | byt t =>
    obtain ⟨rfl, _⟩ := hv
    have HB := Lib.hid (val_below w 5 false none 0 0 0 t)
    unfold pv
    go_enter Tryz.func11, Tryz.ntmps11
    go_wp2
    go_ret
    exact ⟨ret_bool (by simp [truthX]), HB.out⟩
  | float f =>
    obtain rfl := hv
    have HB := Lib.hid (val_below w 3 false none 0 0 (f : Int) ⟨#[]⟩)
    unfold pv
    have HQ : Hid (truthX (.float f) = !fz f) := rfl
    rw [HQ.out]
    go_enter Tryz.func11, Tryz.ntmps11
    go_wp2_with fail
    refine (fl_any f _).mono ?_
    rintro e w1 ⟨rfl, hb1⟩
    have HB1 := Lib.hid (HB.out.trans (hb1.mono (by simp)))
    clear hb1
    go_wp2
    go_ret
    exact ⟨rfl, HB1.out⟩
  | int neg l =>
    obtain ⟨hi, hl⟩ := hv
    obtain ⟨vs, hv, ho, hh, hng⟩ := hi
    obtain ⟨g, c, hvs, _, _, _, _⟩ := ho.form
    obtain ⟨r, hr⟩ : ∃ r, r = l.length := ⟨_, rfl⟩
    rw [← hr] at hvs
    subst hvs
    subst hv
    have hb0 := val_below w 2 neg (some ⟨g, 0, none⟩) r c 0 ⟨#[]⟩
    have HB := Lib.hid hb0
    have HN := Lib.hid (num_any 2 neg (some ⟨g, 0, none⟩) r c 0 ⟨#[]⟩ none 0 0 l _ (ho.below hb0).bsl (by omega))
    obtain ⟨n1, hn1⟩ : ∃ n, n = (strip l).length := ⟨_, rfl⟩
    have HT : Hid (truthX (.int neg l) = !((n1 : Int) == 0)) := by
      show decide (intOf2 neg l ≠ 0) = !((n1 : Int) == 0)
      have hz := int_zero (neg := negOf neg l) (l := strip l) (strip_head l)
      rw [of_val3] at hz
      by_cases h : intOf2 neg l = 0
      · have : n1 = 0 := by rw [hn1, hz.1 h]; rfl
        rw [decide_eq_false (fun e => e h), this]; rfl
      · have hne : n1 ≠ 0 := fun e => h (hz.2 (List.eq_nil_of_length_eq_zero (by rw [← hn1]; exact e)))
        have h2 : ((n1 : Int) == 0) = false := by rw [beq_eq_false_iff_ne]; omega
        rw [decide_eq_true h, h2]; rfl
    have HN1 := Lib.hid hn1
    rw [HT.out]
    unfold pv at HN
    clear ho hh hng hl hr hb0 hn1
    go_enter Tryz.func11, Tryz.ntmps11
    go_wp2_with fail
    refine HN.out.mono ?_
    rintro e w1 ⟨v1, rfl, hsi, hb1⟩
    have HB1 := Lib.hid (HB.out.trans (hb1.mono (by simp)))
    obtain ⟨vs1, rfl, hob, _, _⟩ := hsi
    obtain ⟨g1, c1, hvs1, _, _, _, _⟩ := hob.form
    rw [← HN1.out] at hvs1
    subst hvs1
    clear hob hb1
    go_wp2_with fail
    refine (zero_any _ _ n1 c1 _).mono ?_
    rintro e w2 ⟨rfl, hb2⟩
    have HB2 := Lib.hid (HB1.out.trans (hb2.mono HB1.out.size))
    clear hb2
    go_wp2
    go_ret
    exact ⟨rfl, HB2.out⟩
end Go.Proofs.YtmpfffcdpecadaaGreat
