/- The law's walk: the floor's remainder of two floats. -/
import Derived.Test.YtkddmiamdpbgiaaFltFloor
import Derived.Below
namespace Go.Proofs.Ytkddmiamdpbgiaa
open Go.RowKit
/-- The remainder's word, of what math.Mod leaves. -/
def fmv (a b : Bool) (c s : Nat) : Nat := if 0 < c ∧ a ≠ b then (Ieee.double.add (FW a c) (FW b s)).getD 0 else FW a c
def FMPost (a b : Bool) (r s : Nat) (w : World) (e : Ending) (w' : World) : Prop := ∃ n : Nat, e = .returned (.float .f64 n) ∧ (IsNan n ∨ ∃ c, ModRel s r c ∧ n = fmv a b c s) ∧ ((infR ≤ r ∨ infR < s) → IsNan n) ∧ (¬ (infR ≤ r ∨ infR < s) → ∃ c, ModRel s r c ∧ n = fmv a b c s) ∧ ∃ q, w' = w.drewN q
theorem ord_neg_pos (b : Bool) {s : Nat} (h0 : 0 < s) (hs : s ≤ infR) : (FloatKind.f64.format.order (FW b s) 0 == some .lt) = b := by
  rcases Nat.lt_or_ge s infR with h | h
  · rw [ord_neg_fw b h]; simp [h0]
  · have : s = infR := by omega
    subst this
    cases b <;> decide
theorem ord_ne_fw (a : Bool) {c : Nat} (hc : c < infR) : (FloatKind.f64.format.order (FW a c) 0 != some .eq) = decide (0 < c) := by
  show (Ieee.double.order (FW a c) (FW false 0) != _) = _
  rw [order_fw a false hc (by decide), bne, cmp_eq]
  have := fval_zero
  unfold sval
  rcases Nat.eq_zero_or_pos c with h | h
  · subst h; cases a <;> simp [fval_zero]
  · have := fval_pos h
    rw [Bool.eq_iff_iff]
    cases a <;> simp [fval_zero, h] <;> omega
set_option maxRecDepth 20000 in
set_option maxHeartbeats 1000000 in
theorem floor_mod (a b : Bool) (r s : Nat) (hr : r < S63) (h0 : 0 < s) (hs : s < S63) (w : World) : Calls Try.prog 10 #[.float .f64 (FW a r), .float .f64 (FW b s)] w (FMPost a b r s w) := by
  have d0 : ∀ W : World, ∃ q, W = W.drewN q := fun W => ⟨0, rfl⟩
  have d1 : ∀ W : World, ∃ q, W.drew = W.drewN q := fun W => ⟨1, rfl⟩
  have D0 := Lib.hid d0
  have D1 := Lib.hid d1
  clear d0 d1
  by_cases hbad : infR ≤ r ∨ infR < s
  · have HM := Lib.hid (Mod_bad a b r s hr h0 hs hbad)
    have HBAD := Lib.hid hbad
    have hn1 : (FloatKind.f64.format.order nanW 0 != some .eq) = true := by decide
    have hn2 : (FloatKind.f64.format.order nanW 0 == some .lt) = false := by decide
    obtain ⟨x, hx⟩ : ∃ x, x = FW a r := ⟨_, rfl⟩
    obtain ⟨y, hy⟩ : ∃ y, y = FW b s := ⟨_, rfl⟩
    obtain ⟨m, hm⟩ : ∃ m, m = nanW := ⟨_, rfl⟩
    have hmn : IsNan m := hm ▸ nanW_nan
    rw [← hx, ← hy, ← hm] at HM
    rw [← hm] at hn1 hn2
    rw [← hx, ← hy]
    obtain ⟨n, hn, hadd⟩ := run_add_nan (P := Try.prog) 23 y hmn w
    have HMN := Lib.hid hmn
    have HNN := Lib.hid hn
    clear hx hy hbad hm hmn hn hr h0 hs
    cases hy0 : (FloatKind.f64.format.order y 0 == some .lt)
    · go_enter Try.func10, Try.ntmps10
      go_wp2_with fail
      refine (HM.out _).mono ?_
      unfold FPost
      rintro e w' ⟨rfl, rfl⟩
      go_wp2
      go_ret
      exact ⟨m, rfl, .inl HMN.out, fun _ => HMN.out, fun h => absurd HBAD.out h, D0.out _⟩
    · go_enter Try.func10, Try.ntmps10
      go_wp2_with fail
      refine (HM.out _).mono ?_
      unfold FPost
      rintro e w' ⟨rfl, rfl⟩
      go_wp2
      go_ret
      exact ⟨n, rfl, .inl HNN.out, fun _ => HNN.out, fun h => absurd HBAD.out h, D1.out _⟩
  · have hrf : r < infR := by omega
    have hsf : s ≤ infR := by omega
    have HM := Lib.hid (Mod_fin a b r s hrf h0 hsf)
    have HBAD := Lib.hid hbad
    have HR := Lib.hid hrf
    have HS := Lib.hid hsf
    have HS0 := Lib.hid h0
    have hyl := ord_neg_pos b h0 hsf
    have hxl := ord_neg_fw a hrf
    obtain ⟨x, hx⟩ : ∃ x, x = FW a r := ⟨_, rfl⟩
    obtain ⟨y, hy⟩ : ∃ y, y = FW b s := ⟨_, rfl⟩
    rw [← hx, ← hy] at HM
    rw [← hx] at hxl
    rw [← hy] at hyl
    rw [← hx, ← hy]
    have HY := Lib.hid hy
    have hpos : r = 0 ∨ 0 < r := Nat.eq_zero_or_pos r
    clear hx hy hbad hr h0 hs hrf hsf
    have FIN : ∀ c, ModRel s r c → c ≤ r → Hid (∀ (W : World), ¬ (0 < c ∧ a ≠ b) → FMPost a b r s W (.returned (.float .f64 (FW a c))) W) := fun c hc hcr W hne => ⟨FW a c, rfl, .inr ⟨c, hc, by unfold fmv; rw [if_neg hne]⟩, fun h => absurd h HBAD.out, fun _ => ⟨c, hc, by unfold fmv; rw [if_neg hne]⟩, D0.out W⟩
    have FIN2 : ∀ c t, ModRel s r c → c ≤ r → Ieee.double.add (FW a c) (FW b s) = some t → Hid (∀ (W : World), (0 < c ∧ a ≠ b) → FMPost a b r s W (.returned (.float .f64 t)) W) := fun c t hc hcr ht W hne => ⟨t, rfl, .inr ⟨c, hc, by unfold fmv; rw [if_pos hne, ht]; rfl⟩, fun h => absurd h HBAD.out, fun _ => ⟨c, hc, by unfold fmv; rw [if_pos hne, ht]; rfl⟩, D0.out W⟩
    have F1 := Lib.hid FIN
    have F2 := Lib.hid FIN2
    clear FIN FIN2
    go_enter Try.func10, Try.ntmps10
    go_wp2_with fail
    refine (HM.out _).mono ?_
    rintro e w' ⟨c, rfl, hc, hcr, rfl⟩
    have hci : c < infR := Nat.lt_of_le_of_lt hcr HR.out
    have hne := ord_ne_fw a hci
    have hml := ord_neg_fw a hci
    obtain ⟨t, ht⟩ := add_some a b hci HS.out
    have G1 := Lib.hid (F1.out c hc hcr)
    have G2 := Lib.hid (F2.out c t hc hcr ht)
    have hadd := fun W => run_float_arith (P := Try.prog) W .add 23 .f64 (FW a c) y t (by rw [HY.out]; exact ht)
    obtain ⟨m, hm⟩ : ∃ m, m = FW a c := ⟨_, rfl⟩
    rw [← hm] at G1 hne hml hadd ⊢
    clear hm ht hc hci
    have hc0 : c = 0 ∨ 0 < c := Nat.eq_zero_or_pos c
    rcases hc0 with rfl | hc0
    · rw [show decide (0 < 0) = false by decide] at hne hml
      rw [Bool.and_false] at hml
      rcases hpos with rfl | hpos
      · rw [show decide (0 < 0) = false by decide] at hxl
        rw [Bool.and_false] at hxl
        clear hadd hml hcr
        cases b
        all_goals
          go_wp2
          go_ret
          exact G1.out.out _ (fun h => absurd h.1 (by omega))
      · rw [show decide (0 < r) = true by simpa using hpos, Bool.and_true] at hxl
        clear hadd hml hcr hpos
        cases a <;> cases b
        all_goals
          go_wp2
          go_ret
          exact G1.out.out _ (fun h => absurd h.1 (by omega))
    · have hr0 : 0 < r := by omega
      rw [show decide (0 < c) = true by simpa using hc0] at hne hml
      rw [show decide (0 < r) = true by simpa using hr0, Bool.and_true] at hxl
      rw [Bool.and_true] at hml
      have HC0 := Lib.hid hc0
      clear hpos hcr hc0 hr0
      cases a <;> cases b
      · go_wp2
        go_ret
        exact G1.out.out _ (fun h => h.2 rfl)
      · go_wp2
        go_ret
        exact G2.out.out _ ⟨HC0.out, by decide⟩
      · go_wp2
        go_ret
        exact G2.out.out _ ⟨HC0.out, by decide⟩
      · go_wp2
        go_ret
        exact G1.out.out _ (fun h => h.2 rfl)
set_option maxRecDepth 20000 in
set_option maxHeartbeats 1000000 in
theorem star_mod (a b : Bool) (r s : Nat) (hr : r < S63) (h0 : 0 < s) (hs : s < S63) (w : World) : Calls Try.prog 17 #[.float .f64 (FW a r), .float .f64 (FW b s)] w (FMPost a b r s w) := by
  have d0 : ∀ W : World, ∃ q, W = W.drewN q := fun W => ⟨0, rfl⟩
  have d1 : ∀ W : World, ∃ q, W.drew = W.drewN q := fun W => ⟨1, rfl⟩
  have D0 := Lib.hid d0
  have D1 := Lib.hid d1
  clear d0 d1
  by_cases hbad : infR ≤ r ∨ infR < s
  · have HM := Lib.hid (Mod_bad a b r s hr h0 hs hbad)
    have HBAD := Lib.hid hbad
    have hn1 : (FloatKind.f64.format.order nanW 0 != some .eq) = true := by decide
    have hn2 : (FloatKind.f64.format.order nanW 0 == some .lt) = false := by decide
    obtain ⟨x, hx⟩ : ∃ x, x = FW a r := ⟨_, rfl⟩
    obtain ⟨y, hy⟩ : ∃ y, y = FW b s := ⟨_, rfl⟩
    obtain ⟨m, hm⟩ : ∃ m, m = nanW := ⟨_, rfl⟩
    have hmn : IsNan m := hm ▸ nanW_nan
    rw [← hx, ← hy, ← hm] at HM
    rw [← hm] at hn1 hn2
    rw [← hx, ← hy]
    obtain ⟨n, hn, hadd⟩ := run_add_nan (P := Try.prog) 53 y hmn w
    have HMN := Lib.hid hmn
    have HNN := Lib.hid hn
    clear hx hy hbad hm hmn hn hr h0 hs
    cases hx0 : (FloatKind.f64.format.order x 0 == some .lt) <;> cases hy0 : (FloatKind.f64.format.order y 0 == some .lt)
    · go_enter Try.func17, Try.ntmps17
      go_wp2_with fail
      refine (HM.out _).mono ?_
      unfold FPost
      rintro e w' ⟨rfl, rfl⟩
      go_wp2
      go_ret
      exact ⟨m, rfl, .inl HMN.out, fun _ => HMN.out, fun h => absurd HBAD.out h, D0.out _⟩
    · go_enter Try.func17, Try.ntmps17
      go_wp2_with fail
      refine (HM.out _).mono ?_
      unfold FPost
      rintro e w' ⟨rfl, rfl⟩
      go_wp2
      go_ret
      exact ⟨n, rfl, .inl HNN.out, fun _ => HNN.out, fun h => absurd HBAD.out h, D1.out _⟩
    · go_enter Try.func17, Try.ntmps17
      go_wp2_with fail
      refine (HM.out _).mono ?_
      unfold FPost
      rintro e w' ⟨rfl, rfl⟩
      go_wp2
      go_ret
      exact ⟨n, rfl, .inl HNN.out, fun _ => HNN.out, fun h => absurd HBAD.out h, D1.out _⟩
    · go_enter Try.func17, Try.ntmps17
      go_wp2_with fail
      refine (HM.out _).mono ?_
      unfold FPost
      rintro e w' ⟨rfl, rfl⟩
      go_wp2
      go_ret
      exact ⟨m, rfl, .inl HMN.out, fun _ => HMN.out, fun h => absurd HBAD.out h, D0.out _⟩
  · have hrf : r < infR := by omega
    have hsf : s ≤ infR := by omega
    have HM := Lib.hid (Mod_fin a b r s hrf h0 hsf)
    have HBAD := Lib.hid hbad
    have HR := Lib.hid hrf
    have HS := Lib.hid hsf
    have HS0 := Lib.hid h0
    have hyl := ord_neg_pos b h0 hsf
    have hxl := ord_neg_fw a hrf
    obtain ⟨x, hx⟩ : ∃ x, x = FW a r := ⟨_, rfl⟩
    obtain ⟨y, hy⟩ : ∃ y, y = FW b s := ⟨_, rfl⟩
    rw [← hx, ← hy] at HM
    rw [← hx] at hxl
    rw [← hy] at hyl
    rw [← hx, ← hy]
    have HY := Lib.hid hy
    have hpos : r = 0 ∨ 0 < r := Nat.eq_zero_or_pos r
    clear hx hy hbad hr h0 hs hrf hsf
    have FIN : ∀ c, ModRel s r c → c ≤ r → Hid (∀ (W : World), ¬ (0 < c ∧ a ≠ b) → FMPost a b r s W (.returned (.float .f64 (FW a c))) W) := fun c hc hcr W hne => ⟨FW a c, rfl, .inr ⟨c, hc, by unfold fmv; rw [if_neg hne]⟩, fun h => absurd h HBAD.out, fun _ => ⟨c, hc, by unfold fmv; rw [if_neg hne]⟩, D0.out W⟩
    have FIN2 : ∀ c t, ModRel s r c → c ≤ r → Ieee.double.add (FW a c) (FW b s) = some t → Hid (∀ (W : World), (0 < c ∧ a ≠ b) → FMPost a b r s W (.returned (.float .f64 t)) W) := fun c t hc hcr ht W hne => ⟨t, rfl, .inr ⟨c, hc, by unfold fmv; rw [if_pos hne, ht]; rfl⟩, fun h => absurd h HBAD.out, fun _ => ⟨c, hc, by unfold fmv; rw [if_pos hne, ht]; rfl⟩, D0.out W⟩
    have F1 := Lib.hid FIN
    have F2 := Lib.hid FIN2
    clear FIN FIN2
    go_enter Try.func17, Try.ntmps17
    go_wp2_with fail
    refine (HM.out _).mono ?_
    rintro e w' ⟨c, rfl, hc, hcr, rfl⟩
    have hci : c < infR := Nat.lt_of_le_of_lt hcr HR.out
    have hne := ord_ne_fw a hci
    have hml := ord_neg_fw a hci
    obtain ⟨t, ht⟩ := add_some a b hci HS.out
    have G1 := Lib.hid (F1.out c hc hcr)
    have G2 := Lib.hid (F2.out c t hc hcr ht)
    have hadd := fun W => run_float_arith (P := Try.prog) W .add 53 .f64 (FW a c) y t (by rw [HY.out]; exact ht)
    obtain ⟨m, hm⟩ : ∃ m, m = FW a c := ⟨_, rfl⟩
    rw [← hm] at G1 hne hml hadd ⊢
    clear hm ht hc hci
    have hc0 : c = 0 ∨ 0 < c := Nat.eq_zero_or_pos c
    rcases hc0 with rfl | hc0
    · rw [show decide (0 < 0) = false by decide] at hne hml
      rw [Bool.and_false] at hml
      rcases hpos with rfl | hpos
      · rw [show decide (0 < 0) = false by decide] at hxl
        rw [Bool.and_false] at hxl
        clear hadd hml hcr
        cases b
        all_goals
          go_wp2
          go_ret
          exact G1.out.out _ (fun h => absurd h.1 (by omega))
      · rw [show decide (0 < r) = true by simpa using hpos, Bool.and_true] at hxl
        clear hadd hml hcr hpos
        cases a <;> cases b
        all_goals
          go_wp2
          go_ret
          exact G1.out.out _ (fun h => absurd h.1 (by omega))
    · have hr0 : 0 < r := by omega
      rw [show decide (0 < c) = true by simpa using hc0] at hne hml
      rw [show decide (0 < r) = true by simpa using hr0, Bool.and_true] at hxl
      rw [Bool.and_true] at hml
      have HC0 := Lib.hid hc0
      clear hpos hcr hc0 hr0
      cases a <;> cases b
      · go_wp2
        go_ret
        exact G1.out.out _ (fun h => h.2 rfl)
      · go_wp2
        go_ret
        exact G2.out.out _ ⟨HC0.out, by decide⟩
      · go_wp2
        go_ret
        exact G2.out.out _ ⟨HC0.out, by decide⟩
      · go_wp2
        go_ret
        exact G1.out.out _ (fun h => h.2 rfl)
end Go.Proofs.Ytkddmiamdpbgiaa
