/- The remainder of two floats. -/
import Derived.Test.YtkddmiamdpbgiaaFltWalkB
namespace Go.Proofs.Ytkddmiamdpbgiaa
open Go.RowKit
@[go_sem] theorem run_neg_float {P : Program} (k : FloatKind) (b : Nat) (w : World) : (Op.unary .neg (.float k b)).run P w = .ok (.float k (Op.negFloat k b)) w := rfl
/-- What is left of r by y, step by step. -/
inductive ModRel (y : Nat) : Nat → Nat → Prop
  | stop (r : Nat) : r < y → ModRel y r r
  | step (r s d k z : Nat) : y ≤ r → (flog r : Int) - (if fsig r < fsig y then 1 else 0) - flog y = k → fval s = fval y * 2 ^ k → Ieee.double.sub r s = some d → ModRel y d z → ModRel y r z
theorem ModRel.uniq {y r z z' : Nat} (h : ModRel y r z) (h' : ModRel y r z') : z = z' := by
  induction h with
  | stop r hr => cases h' with
    | stop _ _ => rfl
    | step _ s d k _ h1 => omega
  | step r s d k z h1 h2 h3 h4 h5 ih => cases h' with
    | stop _ _ => omega
    | step _ s' d' k' _ h1' h2' h3' h4' h5' =>
      have ek : k = k' := by omega
      subst ek
      have es : s = s' := fval_inj (by rw [h3, h3'])
      subst es
      rw [h4] at h4'
      injection h4' with ed
      subst ed
      exact ih h5'
theorem ord_geq {r s : Nat} (hr : r < infR) (hs : s < infR) : (FloatKind.f64.format.order r s == some .gt || FloatKind.f64.format.order r s == some .eq) = decide (s ≤ r) := by
  rw [ord_gt hr hs]
  have : (FloatKind.f64.format.order r s == some .eq) = decide (r = s) := by
    show (Ieee.double.order (FW false r) (FW false s) == _) = _
    rw [order_fw false false hr hs, cmp_eq]
    unfold sval
    simp only [Bool.false_eq_true, if_false]
    by_cases h : r = s
    · simp [h]
    · have : fval r ≠ fval s := fun e => h (fval_inj e)
      simp [h]; omega
  rw [this]
  rw [Bool.eq_iff_iff]
  simp
  omega
theorem ord_fin_inf (a : Bool) {r : Nat} (hr : r < infR) : Ieee.double.order (FW a r) infR = some .lt := by
  unfold Ieee.Format.order
  rw [read_fw a hr, show infR = FW false infR from rfl, read_inf]
  rfl
theorem ord_inf_self (b : Bool) : (FloatKind.f64.format.order (FW b infR) (FW b infR) != some .eq) = false := by cases b <;> decide
theorem ord_self_fw (a : Bool) {r : Nat} (hr : r ≤ infR) : (FloatKind.f64.format.order (FW a r) (FW a r) != some .eq) = false := by
  rcases Nat.lt_or_ge r infR with h | h
  · show (Ieee.double.order (FW a r) (FW a r) != _) = _
    rw [order_fw a a h h, bne, cmp_eq]; simp
  · have : r = infR := by omega
    subst this
    exact ord_inf_self a
theorem ord_zero_fw (b : Bool) {s : Nat} (hs : s ≤ infR) (h0 : 0 < s) : (FloatKind.f64.format.order (FW b s) 0 == some .eq) = false := by
  rcases Nat.lt_or_ge s infR with h | h
  · show (Ieee.double.order (FW b s) (FW false 0) == _) = _
    rw [order_fw b false h (by decide), cmp_eq]
    have := fval_pos h0
    have := fval_zero
    unfold sval
    cases b <;> simp <;> omega
  · have : s = infR := by omega
    subst this
    cases b <;> decide
theorem ord_neg_fw (a : Bool) {r : Nat} (hr : r < infR) : (FloatKind.f64.format.order (FW a r) 0 == some .lt) = (a && decide (0 < r)) := by
  show (Ieee.double.order (FW a r) (FW false 0) == _) = _
  rw [order_fw a false hr (by decide), cmp_lt]
  have := fval_zero
  unfold sval
  rcases Nat.eq_zero_or_pos r with h | h
  · subst h; cases a <;> simp [fval_zero]
  · have := fval_pos h
    cases a <;> simp [fval_zero] <;> omega
def ModPost (a : Bool) (r s : Nat) (w : World) (e : Ending) (w' : World) : Prop := ∃ z : Nat, e = .returned (.float .f64 (FW a z)) ∧ ModRel s r z ∧ z ≤ r ∧ w = w'
def FrPost (s : Nat) (w : World) (e : Ending) (w' : World) : Prop := ∃ (f : Nat) (n : Int), e = .returned (.tuple #[.float .f64 f, .int .i64 n]) ∧ (s < infR → f = 1022 * B52 + (fsig s - B52) ∧ n = (flog s : Int) - 1073) ∧ -1100 ≤ n ∧ n ≤ 1100 ∧ w = w'
theorem flog_le {s : Nat} (h0 : 0 < s) (h : s < infR) : flog s ≤ 2097 := by
  obtain ⟨_, _, _, s4, s5⟩ := fsig_spec h0
  have := fexp_le h
  rcases Nat.lt_or_ge s B52 with h | h
  · have := (s5 h).1; omega
  · have := (s4 h).1; omega
theorem Frexp_le (s : Nat) (h0 : 0 < s) (hs : s ≤ infR) (w : World) : Calls Try.prog 42 #[.float .f64 s] w (FrPost s w) := by
  rcases Nat.lt_or_ge s infR with h | h
  · refine (Frexp_any s h0 h w).mono ?_
    rintro e w' ⟨n, rfl, hn, rfl⟩
    have := flog_le h0 h
    exact ⟨_, n, rfl, fun _ => ⟨rfl, hn⟩, by omega, by omega, rfl⟩
  · have : s = infR := by omega
    subst this
    refine (Frexp_inf w).mono ?_
    rintro e w' ⟨rfl, rfl⟩
    exact ⟨_, 0, rfl, fun h => by omega, by omega, by omega, rfl⟩
theorem fr_lt {s : Nat} (h0 : 0 < s) : 1022 * B52 + (fsig s - B52) < infR := by
  obtain ⟨s1, s2, _⟩ := fsig_spec h0
  have h3 := infR_eq
  omega
set_option maxRecDepth 20000 in
set_option maxHeartbeats 2000000 in
theorem mod_fin (a b : Bool) (r s : Nat) (hr : r < infR) (h0 : 0 < s) (hs : s ≤ infR) (w : World) : Calls Try.prog 32 #[.float .f64 (FW a r), .float .f64 (FW b s)] w (ModPost a r s w) := by
  have hS : infR < S63 := by decide
  have hy0 := ord_zero_fw b hs h0
  have hmax : (9218868437227405311 : Nat) = infR - 1 := by decide
  have hgt : (FloatKind.f64.format.order r 9218868437227405311 == some .gt) = false := by
    rw [hmax, ord_gt hr (by omega)]; simp; omega
  have HI := Lib.hid (isinf_any a r (by omega) false hgt)
  have HN := Lib.hid (isnan_any (FW a r) false (ord_self_fw a (by omega)))
  have HM := Lib.hid (isnan_any (FW b s) false (ord_self_fw b hs))
  have HA := Lib.hid (abs_any b s (by omega))
  have HF := Lib.hid (Frexp_le s h0 hs)
  have hlt := ord_neg_fw a hr
  have hng := neg_word true (r := r) (by omega)
  have HNG : Hid (∀ c, c < infR → Op.negFloat .f64 c = FW true c) := fun c hc => neg_word false (r := c) (by omega)
  have HR := Lib.hid hr
  have HS0 := Lib.hid h0
  have HSL := Lib.hid hs
  obtain ⟨x, hx⟩ : ∃ x, x = FW a r := ⟨_, rfl⟩
  obtain ⟨y, hy⟩ : ∃ y, y = FW b s := ⟨_, rfl⟩
  rw [← hx] at HI HN hlt
  rw [← hy] at HM HA hy0
  rw [← hx, ← hy]
  have HX := Lib.hid hx
  clear hy hmax hgt hS hr h0 hs
  by_cases hneg : a = true ∧ 0 < r
  · obtain ⟨rfl, hr0⟩ := hneg
    have hl : (FloatKind.f64.format.order x 0 == some .lt) = true := by rw [hlt]; simpa using hr0
    rw [← hx, Bool.not_true, fw_false] at hng
    clear hlt hx hr0
    go_enter Try.func32, Try.ntmps32
    go_wp2_with fail
    refine (HI.out _).mono ?_
    unfold BPost
    rintro e w' ⟨rfl, rfl⟩
    go_wp2_with fail
    refine (HN.out _).mono ?_
    unfold BPost
    rintro e w' ⟨rfl, rfl⟩
    go_wp2_with fail
    refine (HM.out _).mono ?_
    unfold BPost
    rintro e w' ⟨rfl, rfl⟩
    go_wp2_with fail
    refine (HA.out _).mono ?_
    unfold FPost
    rintro e w' ⟨rfl, rfl⟩
    go_wp2_with fail
    refine (HF.out _).mono ?_
    rintro e w' ⟨fy, ny, rfl, hfn, hny1, hny2, rfl⟩
    have HFN := Lib.hid hfn
    clear hfn
    go_wp2_with fail
    go_loop [7] (fun rv => ∃ c : Nat, rv = .float .f64 c ∧ Hid (c ≤ r) ∧ Hid (∀ z, ModRel s c z → ModRel s r z)) (fun rv => match rv with | .float _ c => c | _ => 0)
    case atStart => exact ⟨r, rfl, Nat.le_refl _, fun _ h => h⟩
    case round =>
      obtain ⟨c, rfl, hc, hrel2⟩ := hrel
      have hcr : c < infR := Nat.lt_of_le_of_lt hc.out HR.out
      by_cases hsc : s ≤ c
      · have hsi : s < infR := by omega
        have hge : (FloatKind.f64.format.order c s == some .gt || FloatKind.f64.format.order c s == some .eq) = true := by rw [ord_geq hcr hsi]; simpa using hsc
        have hc0 : 0 < c := by have := HS0.out; omega
        obtain ⟨k, t, hk, hk2, ht, ht0, hv, hlow⟩ := mod_step hcr HS0.out hsc
        obtain ⟨d, hd, hdi, hdc⟩ := sub_fw hcr ht
        have hdc2 := hdc ht0 hlow
        obtain ⟨hfy, hny⟩ := HFN.out hsi
        have HSTEP : Hid (∀ z, ModRel s d z → ModRel s r z) := fun z hz => hrel2.out z (.step c t d k z hsc hk hv hd hz)
        have HFC := Lib.hid (Frexp_any c hc0 hcr)
        have HL := Lib.hid (Ldexp_any s k t HS0.out hsi hk2 (by omega) hv)
        have hsub := fun W => run_float_arith (P := Try.prog) W .sub 23 .f64 c t d hd
        have hfl : (FloatKind.f64.format.order (1022 * B52 + (fsig c - B52)) fy == some .lt) = decide (fsig c < fsig s) := by
          rw [hfy, ord_lt (fr_lt hc0) (fr_lt HS0.out)]
          obtain ⟨a1, _⟩ := fsig_spec hc0
          obtain ⟨a2, _⟩ := fsig_spec HS0.out
          rw [Bool.eq_iff_iff]; simp; omega
        have HLE : Hid (d ≤ r) := Nat.le_trans (Nat.le_of_lt hdc2) hc.out
        have HLC := Lib.hid (flog_le hc0 hcr)
        have HDC := Lib.hid hdc2
        by_cases hlt2 : fsig c < fsig s
        · have hff : (FloatKind.f64.format.order (1022 * B52 + (fsig c - B52)) fy == some .lt) = true := by rw [hfl]; simpa using hlt2
          rw [if_pos hlt2] at hk
          have HK : Hid ((flog c : Int) - 1073 - 1 - ny = (k : Int)) := by unfold Hid; rw [hny]; omega
          clear hfl hlt2 hk hk2 ht ht0 hv hlow hd hdi hdc hdc2 hfy hny hsc hsi hc0 hcr hc hrel2
          go_wp2_with fail
          refine (HFC.out _).mono ?_
          rintro e w' ⟨nc, rfl, hnc, rfl⟩
          have hnk : nc - 1 - ny = (k : Int) := by rw [hnc]; exact HK.out
          have hb1 : nc ≤ 1100 := by have := HLC.out; omega
          have hb2 : -1100 ≤ nc := by omega
          clear hnc
          go_wp2_with fail
          refine (HL.out _).mono ?_
          unfold FPost
          rintro e w' ⟨rfl, rfl⟩
          go_wp2
          go_round
          case rel => exact ⟨d, rfl, HLE.out, HSTEP.out⟩
          case measure => exact HDC.out
        · have hff : (FloatKind.f64.format.order (1022 * B52 + (fsig c - B52)) fy == some .lt) = false := by rw [hfl]; simpa using hlt2
          rw [if_neg hlt2] at hk
          have HK : Hid ((flog c : Int) - 1073 - ny = (k : Int)) := by unfold Hid; rw [hny]; omega
          clear hfl hlt2 hk hk2 ht ht0 hv hlow hd hdi hdc hdc2 hfy hny hsc hsi hc0 hcr hc hrel2
          go_wp2_with fail
          refine (HFC.out _).mono ?_
          rintro e w' ⟨nc, rfl, hnc, rfl⟩
          have hnk : nc - ny = (k : Int) := by rw [hnc]; exact HK.out
          have hb1 : nc ≤ 1100 := by have := HLC.out; omega
          have hb2 : -1100 ≤ nc := by omega
          clear hnc
          go_wp2_with fail
          refine (HL.out _).mono ?_
          unfold FPost
          rintro e w' ⟨rfl, rfl⟩
          go_wp2
          go_round
          case rel => exact ⟨d, rfl, HLE.out, HSTEP.out⟩
          case measure => exact HDC.out
      · have hge : (FloatKind.f64.format.order c s == some .gt || FloatKind.f64.format.order c s == some .eq) = false := by
          rcases Nat.lt_or_ge s infR with h | h
          · rw [ord_geq hcr h]; simpa using hsc
          · have e : s = infR := by have := HSL.out; omega
            have h1 := ord_fin_inf false hcr
            rw [fw_false] at h1
            rw [e]
            show (Ieee.double.order c infR == _ || Ieee.double.order c infR == _) = _
            rw [h1]; rfl
        have HST : Hid (ModRel s r c) := hrel2.out c (.stop c (by omega))
        have HCR := Lib.hid hc.out
        have hng2 := HNG.out c hcr
        clear hsc hcr hc hrel2
        go_wp2
        go_ret
        exact ⟨c, rfl, HST.out, HCR.out, rfl⟩
  · have hl : (FloatKind.f64.format.order x 0 == some .lt) = false := by
      rw [hlt]
      cases a
      · simp
      · have : r = 0 := by
          rcases Nat.eq_zero_or_pos r with h | h
          · exact h
          · exact absurd ⟨rfl, h⟩ hneg
        subst this
        simp
    cases a with
    | false =>
      have hx2 : r = x := hx.symm
      clear hx
      subst hx2
      clear hlt hng hneg
      go_enter Try.func32, Try.ntmps32
      go_wp2_with fail
      refine (HI.out _).mono ?_
      unfold BPost
      rintro e w' ⟨rfl, rfl⟩
      go_wp2_with fail
      refine (HN.out _).mono ?_
      unfold BPost
      rintro e w' ⟨rfl, rfl⟩
      go_wp2_with fail
      refine (HM.out _).mono ?_
      unfold BPost
      rintro e w' ⟨rfl, rfl⟩
      go_wp2_with fail
      refine (HA.out _).mono ?_
      unfold FPost
      rintro e w' ⟨rfl, rfl⟩
      go_wp2_with fail
      refine (HF.out _).mono ?_
      rintro e w' ⟨fy, ny, rfl, hfn, hny1, hny2, rfl⟩
      have HFN := Lib.hid hfn
      clear hfn
      go_wp2_with fail
      go_loop [7] (fun rv => ∃ c : Nat, rv = .float .f64 c ∧ Hid (c ≤ r) ∧ Hid (∀ z, ModRel s c z → ModRel s r z)) (fun rv => match rv with | .float _ c => c | _ => 0)
      case atStart => exact ⟨r, rfl, Nat.le_refl _, fun _ h => h⟩
      case round =>
        obtain ⟨c, rfl, hc, hrel2⟩ := hrel
        have hcr : c < infR := Nat.lt_of_le_of_lt hc.out HR.out
        by_cases hsc : s ≤ c
        · have hsi : s < infR := by omega
          have hge : (FloatKind.f64.format.order c s == some .gt || FloatKind.f64.format.order c s == some .eq) = true := by rw [ord_geq hcr hsi]; simpa using hsc
          have hc0 : 0 < c := by have := HS0.out; omega
          obtain ⟨k, t, hk, hk2, ht, ht0, hv, hlow⟩ := mod_step hcr HS0.out hsc
          obtain ⟨d, hd, hdi, hdc⟩ := sub_fw hcr ht
          have hdc2 := hdc ht0 hlow
          obtain ⟨hfy, hny⟩ := HFN.out hsi
          have HSTEP : Hid (∀ z, ModRel s d z → ModRel s r z) := fun z hz => hrel2.out z (.step c t d k z hsc hk hv hd hz)
          have HFC := Lib.hid (Frexp_any c hc0 hcr)
          have HL := Lib.hid (Ldexp_any s k t HS0.out hsi hk2 (by omega) hv)
          have hsub := fun W => run_float_arith (P := Try.prog) W .sub 23 .f64 c t d hd
          have hfl : (FloatKind.f64.format.order (1022 * B52 + (fsig c - B52)) fy == some .lt) = decide (fsig c < fsig s) := by
            rw [hfy, ord_lt (fr_lt hc0) (fr_lt HS0.out)]
            obtain ⟨a1, _⟩ := fsig_spec hc0
            obtain ⟨a2, _⟩ := fsig_spec HS0.out
            rw [Bool.eq_iff_iff]; simp; omega
          have HLE : Hid (d ≤ r) := Nat.le_trans (Nat.le_of_lt hdc2) hc.out
          have HLC := Lib.hid (flog_le hc0 hcr)
          have HDC := Lib.hid hdc2
          by_cases hlt2 : fsig c < fsig s
          · have hff : (FloatKind.f64.format.order (1022 * B52 + (fsig c - B52)) fy == some .lt) = true := by rw [hfl]; simpa using hlt2
            rw [if_pos hlt2] at hk
            have HK : Hid ((flog c : Int) - 1073 - 1 - ny = (k : Int)) := by unfold Hid; rw [hny]; omega
            clear hfl hlt2 hk hk2 ht ht0 hv hlow hd hdi hdc hdc2 hfy hny hsc hsi hc0 hcr hc hrel2
            go_wp2_with fail
            refine (HFC.out _).mono ?_
            rintro e w' ⟨nc, rfl, hnc, rfl⟩
            have hnk : nc - 1 - ny = (k : Int) := by rw [hnc]; exact HK.out
            have hb1 : nc ≤ 1100 := by have := HLC.out; omega
            have hb2 : -1100 ≤ nc := by omega
            clear hnc
            go_wp2_with fail
            refine (HL.out _).mono ?_
            unfold FPost
            rintro e w' ⟨rfl, rfl⟩
            go_wp2
            go_round
            case rel => exact ⟨d, rfl, HLE.out, HSTEP.out⟩
            case measure => exact HDC.out
          · have hff : (FloatKind.f64.format.order (1022 * B52 + (fsig c - B52)) fy == some .lt) = false := by rw [hfl]; simpa using hlt2
            rw [if_neg hlt2] at hk
            have HK : Hid ((flog c : Int) - 1073 - ny = (k : Int)) := by unfold Hid; rw [hny]; omega
            clear hfl hlt2 hk hk2 ht ht0 hv hlow hd hdi hdc hdc2 hfy hny hsc hsi hc0 hcr hc hrel2
            go_wp2_with fail
            refine (HFC.out _).mono ?_
            rintro e w' ⟨nc, rfl, hnc, rfl⟩
            have hnk : nc - ny = (k : Int) := by rw [hnc]; exact HK.out
            have hb1 : nc ≤ 1100 := by have := HLC.out; omega
            have hb2 : -1100 ≤ nc := by omega
            clear hnc
            go_wp2_with fail
            refine (HL.out _).mono ?_
            unfold FPost
            rintro e w' ⟨rfl, rfl⟩
            go_wp2
            go_round
            case rel => exact ⟨d, rfl, HLE.out, HSTEP.out⟩
            case measure => exact HDC.out
        · have hge : (FloatKind.f64.format.order c s == some .gt || FloatKind.f64.format.order c s == some .eq) = false := by
            rcases Nat.lt_or_ge s infR with h | h
            · rw [ord_geq hcr h]; simpa using hsc
            · have e : s = infR := by have := HSL.out; omega
              have h1 := ord_fin_inf false hcr
              rw [fw_false] at h1
              rw [e]
              show (Ieee.double.order c infR == _ || Ieee.double.order c infR == _) = _
              rw [h1]; rfl
          have HST : Hid (ModRel s r c) := hrel2.out c (.stop c (by omega))
          have HCR := Lib.hid hc.out
          skip
          clear hsc hcr hc hrel2
          go_wp2
          go_ret
          exact ⟨c, rfl, HST.out, HCR.out, rfl⟩
    | true =>
      have hr0 : r = 0 := by
        rcases Nat.eq_zero_or_pos r with h | h
        · exact h
        · exact absurd ⟨rfl, h⟩ hneg
      subst hr0
      have hge : (FloatKind.f64.format.order x s == some .gt || FloatKind.f64.format.order x s == some .eq) = false := by
        rw [hx]
        rcases Nat.lt_or_ge s infR with h | h
        · show (Ieee.double.order (FW true 0) (FW false s) == _ || Ieee.double.order (FW true 0) (FW false s) == _) = _
          rw [order_fw true false (by decide) h, cmp_gt, cmp_eq]
          have := fval_pos HS0.out
          unfold sval
          simp [fval_zero]
          omega
        · have e : s = infR := by have := HSL.out; omega
          rw [e]
          show (Ieee.double.order (FW true 0) infR == _ || Ieee.double.order (FW true 0) infR == _) = _
          rw [ord_fin_inf true (by decide)]; rfl
      clear hlt hx hng hneg
      go_enter Try.func32, Try.ntmps32
      go_wp2_with fail
      refine (HI.out _).mono ?_
      unfold BPost
      rintro e w' ⟨rfl, rfl⟩
      go_wp2_with fail
      refine (HN.out _).mono ?_
      unfold BPost
      rintro e w' ⟨rfl, rfl⟩
      go_wp2_with fail
      refine (HM.out _).mono ?_
      unfold BPost
      rintro e w' ⟨rfl, rfl⟩
      go_wp2_with fail
      refine (HA.out _).mono ?_
      unfold FPost
      rintro e w' ⟨rfl, rfl⟩
      go_wp2_with fail
      refine (HF.out _).mono ?_
      rintro e w' ⟨fy, ny, rfl, hfn, hny1, hny2, rfl⟩
      have HFN := Lib.hid hfn
      clear hfn
      go_wp2_with fail
      go_loop [7] (fun rv => rv = .float .f64 x) (fun _ => 0)
      case atStart => rfl
      case round =>
        subst hrel
        go_wp2
        go_ret
        exact ⟨0, by rw [HX.out]; rfl, .stop 0 HS0.out, Nat.le_refl _, rfl⟩
theorem Mod_fin (a b : Bool) (r s : Nat) (hr : r < infR) (h0 : 0 < s) (hs : s ≤ infR) (w : World) : Calls Try.prog 23 #[.float .f64 (FW a r), .float .f64 (FW b s)] w (ModPost a r s w) := by
  have H := Lib.hid (mod_fin a b r s hr h0 hs)
  clear hr h0 hs
  go_enter Try.func23, Try.ntmps23
  go_wp2_with fail
  refine (H.out _).mono ?_
  rintro e w' ⟨z, rfl, hz, hz2, rfl⟩
  have HZ := Lib.hid hz
  have HZ2 := Lib.hid hz2
  clear hz hz2
  go_wp2
  go_ret
  exact ⟨z, rfl, HZ.out, HZ2.out, rfl⟩
end Go.Proofs.Ytkddmiamdpbgiaa
