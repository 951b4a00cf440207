/- The sign of an int. -/
import Derived.Test.YtmpfffcdpecadaaGreatIntGet
namespace Go.Proofs.YtmpfffcdpecadaaGreat
open Go.RowKit
theorem sg_zero : wrap64 (bits .or .u64 0 0) = 0 := by decide +kernel
theorem sg_pos (x : Int) (h0 : 0 < x) (h1 : x < 2147483648) : wrap64 (bits .or .u64 (x / 9223372036854775808) (IntKind.u64.wrap (-x) / 9223372036854775808)) = 1 := by
  have e1 : x / 9223372036854775808 = 0 := by omega
  have e2 : IntKind.u64.wrap (-x) / 9223372036854775808 = 1 := by
    have h : IntKind.u64.wrap (-x) = 18446744073709551616 - x := by
      simp [IntKind.wrap, IntKind.bits, IntKind.signed]
      omega
    rw [h]; omega
  rw [e1, e2]
  decide +kernel
theorem sg_neg (x : Int) (h0 : x < 0) (h1 : -2147483648 ≤ x) : wrap64 (bits .or .u64 (IntKind.u64.wrap (x / 9223372036854775808)) (-x / 9223372036854775808)) = -1 := by
  have e1 : x / 9223372036854775808 = -1 := by omega
  have e2 : -x / 9223372036854775808 = 0 := by omega
  rw [e1, e2]
  decide +kernel
def sgnS (n : Int) : Int := if n < 0 then -1 else if n = 0 then 0 else 1
theorem signum_any (x : Int) (h0 : x < 2147483648) (h1 : -2147483648 ≤ x) (w : World) :
    Calls Tryz.prog 166 #[.int .i64 x] w (IntPost (sgn x) w) := by
  by_cases hn : x < 0
  · have HS : Hid (sgn x = -1) := by unfold Hid sgn; rw [if_pos hn]
    have HV := Lib.hid (sg_neg x hn h1)
    go_enter Tryz.func166, Tryz.ntmps166
    go_wp2
    go_ret
    exact ⟨ret_int (by rw [HS.out]; exact HV.out), rfl⟩
  · by_cases hz : x = 0
    · subst hz
      have HS : Hid (sgn 0 = 0) := rfl
      go_enter Tryz.func166, Tryz.ntmps166
      go_wp2
      go_ret
      exact ⟨ret_int (by rw [HS.out]; exact sg_zero), rfl⟩
    · have HS : Hid (sgn x = 1) := by unfold Hid sgn; rw [if_neg hn, if_neg hz]
      have hp : 0 < x := by omega
      have HV := Lib.hid (sg_pos x hp h0)
      clear hn hz
      go_enter Tryz.func166, Tryz.ntmps166
      go_wp2
      go_ret
      exact ⟨ret_int (by rw [HS.out]; exact HV.out), rfl⟩
theorem signW_sgn (neg : Bool) (ws : List Nat) (ht : TopNZ ws) : signW neg ws = sgn (valI neg ws) := by
  unfold signW sgn valI
  by_cases h : ws = []
  · subst h; cases neg <;> simp [valW]
  · have hp : 0 < valW ws := by
      obtain ⟨init, last, rfl⟩ : ∃ init last, ws = init ++ [last] := ⟨ws.dropLast, ws.getLast h, (List.dropLast_concat_getLast h).symm⟩
      have hl0 : last ≠ 0 := by unfold TopNZ at ht; simpa using ht
      have h1 := valW_top init last hl0
      have h2 : 0 < W64 ^ init.length := Nat.pow_pos W64_pos
      omega
    rw [if_neg h]
    cases neg
    · simp; omega
    · simp; omega
def SgnPost (n : Int) (w : World) (e : Ending) (w' : World) : Prop := e = .returned (.int .i64 (sgn n)) ∧ Below w.heap.size w w'
set_option maxHeartbeats 1000000 in
theorem star_sign (B : Nat) (v : Value) (n : Int) (w : World) (hv : SI w B v n) :
    Calls Tryz.prog 165 #[v] w (SgnPost n w) := by
  rcases hv with ⟨hs, rfl⟩ | ⟨hs, b, neg, ws, rfl, _, hbi, hval⟩
  · have h1 := of_decide_eq_true hs
    have ha : n < 2147483648 := h1.2
    have hb : -2147483648 ≤ n := h1.1
    clear hs h1
    go_enter Tryz.func165, Tryz.ntmps165
    go_wp2_with fail
    refine (int_get n none _).mono ?_
    rintro e w1 ⟨rfl, hb1⟩
    have hbw := ((Below.refl _ w).alloc (Nat.le_refl _) _).trans (hb1.mono (by simp))
    clear hb1
    go_wp2_with fail
    refine (signum_any n ha hb _).mono ?_
    unfold IntPost
    rintro e w2 ⟨rfl, rfl⟩
    go_wp2
    go_ret
    exact ⟨rfl, hbw⟩
  · have HV := Lib.hid hval
    have ht : TopNZ ws := by obtain ⟨_, _, _, h, _⟩ := hbi; exact h
    have HS := Lib.hid (signW_sgn neg ws ht)
    have HBI := Lib.hid (hbi.below ((Below.refl _ w).alloc (Nat.le_refl _) (.cells #[.int .i64 0, .pointer (some ⟨b, 0, none⟩)] 96)))
    clear hs hval hbi ht
    go_enter Tryz.func165, Tryz.ntmps165
    go_wp2_with fail
    refine (int_get 0 (some ⟨b, 0, none⟩) _).mono ?_
    rintro e w1 ⟨rfl, hb1⟩
    have HBI1 := Lib.hid (HBI.out.below hb1)
    have hbw := ((Below.refl _ w).alloc (Nat.le_refl _) _).trans (hb1.mono (by simp))
    clear hb1
    go_wp2_with fail
    refine (big_sign B b neg ws _ HBI1.out).mono ?_
    unfold SignWPost
    rw [HS.out, HV.out]
    rintro e w2 ⟨rfl, rfl⟩
    go_wp2
    go_ret
    exact ⟨rfl, hbw⟩
end Go.Proofs.YtmpfffcdpecadaaGreat
