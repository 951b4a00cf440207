/- The reference's integer as a number of 64 bits. -/
import Derived.Test.YtmpfffcdpecadaaGreatSCmp
import Derived.Test.YtmpfffcdpecadaaGreatLow
import Derived.Test.YtmpfffcdpecadaaGreatSmall
namespace Go.Proofs.YtmpfffcdpecadaaGreat
open Go.RowKit
attribute [local go_sem ↓] Go.wp_at_zero Go.wp_at_succ
theorem box_one {w W : World} {t : TypeId} {a b : Value} (h : Below (w.heap.size + 1) (w.alloc (.cells #[a, b] t)) W) :
    Blk W w.heap.size t #[a, b] ∧ w.heap.size + 1 ≤ W.heap.size ∧ Below w.heap.size w W :=
  ⟨(Blk.new w t #[a, b]).below h (by omega), by have := h.size; simpa using this, ((Below.refl _ w).alloc (Nat.le_refl _) _).trans (h.mono (by omega))⟩
theorem box_one_cells {w W : World} {t : TypeId} {a b : Value} (h : Below (w.heap.size + 1) (w.alloc (.cells #[a, b] t)) W) :
    W.cell? ⟨w.heap.size, 0, none⟩ = some a ∧ W.cell? ⟨w.heap.size, 1, none⟩ = some b := by
  obtain ⟨e0, e1, _⟩ := blk2 (box_one h).1
  exact ⟨e0, e1⟩
/-- The number, and whether it has room. -/
def S64Post (n : Int) (w : World) (e : Ending) (w' : World) : Prop :=
  (e = .returned (.tuple #[.int .i64 (if -9223372036854775808 ≤ n ∧ n ≤ 9223372036854775807 then n else 0), .bool (decide (-9223372036854775808 ≤ n ∧ n ≤ 9223372036854775807))])) ∧ Below w.heap.size w w'
theorem s64_no {n : Int} {w w' : World} (h : ¬ (-9223372036854775808 ≤ n ∧ n ≤ 9223372036854775807)) (hb : Below w.heap.size w w') : S64Post n w (.returned (.tuple #[.int .i64 0, .bool false])) w' := by
  refine ⟨?_, hb⟩
  rw [if_neg h, decide_eq_false h]
theorem s64_yes {n : Int} {w w' : World} (h : -9223372036854775808 ≤ n ∧ n ≤ 9223372036854775807) (hb : Below w.heap.size w w') : S64Post n w (.returned (.tuple #[.int .i64 n, .bool true])) w' := by
  refine ⟨?_, hb⟩
  rw [if_pos h, decide_eq_true h]
set_option maxRecDepth 100000 in
set_option maxHeartbeats 4000000 in
theorem spec_int64 (B : Nat) (v : Value) (neg : Bool) (l : List Nat) (w : World) (hv : SInt w B v neg l) (hl : l.length ≤ 4000000000) :
    Calls Tryz.prog 62 #[v] w (S64Post (intOf2 neg l) w) := by
  have HV := Lib.hid hv
  have HL := Lib.hid hl
  obtain ⟨vs, rfl, ho, hh, hn⟩ := hv
  obtain ⟨g, c, hvs, _, _, _, _⟩ := ho.form
  obtain ⟨m, hm⟩ : ∃ m, m = l.length := ⟨_, rfl⟩
  rw [← hm] at hvs
  subst hvs
  obtain ⟨n, hnn⟩ : ∃ n, n = intOf2 neg l := ⟨_, rfl⟩
  rw [← hnn]
  have HN := Lib.hid hnn
  have C0 := Lib.hid (Below.refl (w.heap.size + 1) (w.alloc (.cells #[.bool neg, .slice (some ⟨g, 0, none⟩) m c] 40)))
  clear ho hh hn hm hl hnn
  have tok1 : True := trivial
  have tok2 : True := trivial
  have tok3 : True := trivial
  have tok4 : True := trivial
  by_cases h1 : n < -9223372036854775808
  · obtain ⟨q1, hq1⟩ : ∃ q, q = sgn (n - -9223372036854775808) := ⟨_, rfl⟩
    have hd1 : decide (q1 < 0) = true := by rw [hq1]; unfold sgn; simp; split <;> (try split) <;> omega
    have HQ := Lib.hid hq1
    have H1 := Lib.hid h1
    clear h1 hq1
    go_enter Tryz.func62, Tryz.ntmps62
    go_upto_region 1 with fail
    go_region_with ((first | (go_at_call 44; have _t := tok1; refine (small_any (-9223372036854775808) (by decide) _).mono ?_; rintro e w1 ⟨v1, n1, l1, rfl, hsi1, _, hn1, hb1⟩; have C1 := Lib.hid (C0.out.drew.trans (hb1.mono (box_one C0.out.drew).2.1)); have HS1 := Lib.hid hsi1; have HN1 := Lib.hid hn1; clear _t tok1 hb1 hsi1 hn1; obtain ⟨d0, d1⟩ := box_one_cells C1.out) | (go_at_call 64; have _t := tok2; refine (cmp_full _ _ _ _ _ _ _ _ _ (HV.out.below (box_one C1.out).2.2) HS1.out).mono ?_; unfold OrdPost; rw [← HN.out, HN1.out, ← HQ.out]; rintro e w2 ⟨rfl, hb2⟩; have C2 := Lib.hid (C1.out.trans (hb2.mono (box_one C1.out).2.1)); clear _t tok2 hb2; obtain ⟨d2, d3⟩ := box_one_cells C2.out)))
    all_goals
      have HB := Lib.hid (box_one C2.out).2.2
      go_wp2
      go_ret2
      exact s64_no (by have := H1.out; omega) HB.out
  · obtain ⟨q1, hq1⟩ : ∃ q, q = sgn (n - -9223372036854775808) := ⟨_, rfl⟩
    obtain ⟨q2, hq2⟩ : ∃ q, q = sgn (n - 9223372036854775807) := ⟨_, rfl⟩
    have hd1 : decide (q1 < 0) = false := by rw [hq1]; unfold sgn; simp; split <;> (try split) <;> omega
    have HQ := Lib.hid hq1
    have HQ2 := Lib.hid hq2
    have H1 := Lib.hid h1
    by_cases h2 : 9223372036854775807 < n
    · have hd2 : decide (0 < q2) = true := by rw [hq2]; unfold sgn; simp; split <;> (try split) <;> omega
      have H2 := Lib.hid h2
      clear h1 h2 hq1 hq2
      go_enter Tryz.func62, Tryz.ntmps62
      go_upto_region 1 with fail
      go_region_with ((first | (go_at_call 44; have _t := tok1; refine (small_any (-9223372036854775808) (by decide) _).mono ?_; rintro e w1 ⟨v1, n1, l1, rfl, hsi1, _, hn1, hb1⟩; have C1 := Lib.hid (C0.out.drew.trans (hb1.mono (box_one C0.out.drew).2.1)); have HS1 := Lib.hid hsi1; have HN1 := Lib.hid hn1; clear _t tok1 hb1 hsi1 hn1; obtain ⟨d0, d1⟩ := box_one_cells C1.out) | (go_at_call 64; have _t := tok2; refine (cmp_full _ _ _ _ _ _ _ _ _ (HV.out.below (box_one C1.out).2.2) HS1.out).mono ?_; unfold OrdPost; rw [← HN.out, HN1.out, ← HQ.out]; rintro e w2 ⟨rfl, hb2⟩; have C2 := Lib.hid (C1.out.trans (hb2.mono (box_one C1.out).2.1)); clear _t tok2 hb2; obtain ⟨d2, d3⟩ := box_one_cells C2.out) | (go_at_call 44; have _t := tok3; refine (small_any 9223372036854775807 (by decide) _).mono ?_; rintro e w3 ⟨v3, n3, l3, rfl, hsi3, _, hn3, hb3⟩; have C3 := Lib.hid (C2.out.trans (hb3.mono (box_one C2.out).2.1)); have HS3 := Lib.hid hsi3; have HN3 := Lib.hid hn3; clear _t tok3 hb3 hsi3 hn3; obtain ⟨d4, d5⟩ := box_one_cells C3.out) | (go_at_call 64; have _t := tok4; refine (cmp_full _ _ _ _ _ _ _ _ _ (HV.out.below (box_one C3.out).2.2) HS3.out).mono ?_; unfold OrdPost; rw [← HN.out, HN3.out, ← HQ2.out]; rintro e w4 ⟨rfl, hb4⟩; have C4 := Lib.hid (C3.out.trans (hb4.mono (box_one C3.out).2.1)); clear _t tok4 hb4; obtain ⟨d6, d7⟩ := box_one_cells C4.out)))
      all_goals
        have HB := Lib.hid (box_one C4.out).2.2
        go_wp2
        go_ret2
        exact s64_no (by have := H2.out; omega) HB.out
    · have hd2 : decide (0 < q2) = false := by rw [hq2]; unfold sgn; simp; split <;> (try split) <;> omega
      have H2 := Lib.hid h2
      clear h1 h2 hq1 hq2
      go_enter Tryz.func62, Tryz.ntmps62
      go_upto_region 1 with fail
      go_cut [14] from 5 (fun s14 wx => s14 = .bool false ∧ Hid (Below (w.heap.size + 1) (w.alloc (.cells #[.bool neg, .slice (some ⟨g, 0, none⟩) m c] 40)) wx))
      case first =>
        go_region_with ((first | (go_at_call 44; have _t := tok1; refine (small_any (-9223372036854775808) (by decide) _).mono ?_; rintro e w1 ⟨v1, n1, l1, rfl, hsi1, _, hn1, hb1⟩; have C1 := Lib.hid (C0.out.drew.trans (hb1.mono (box_one C0.out.drew).2.1)); have HS1 := Lib.hid hsi1; have HN1 := Lib.hid hn1; clear _t tok1 hb1 hsi1 hn1; obtain ⟨d0, d1⟩ := box_one_cells C1.out) | (go_at_call 64; have _t := tok2; refine (cmp_full _ _ _ _ _ _ _ _ _ (HV.out.below (box_one C1.out).2.2) HS1.out).mono ?_; unfold OrdPost; rw [← HN.out, HN1.out, ← HQ.out]; rintro e w2 ⟨rfl, hb2⟩; have C2 := Lib.hid (C1.out.trans (hb2.mono (box_one C1.out).2.1)); clear _t tok2 hb2; obtain ⟨d2, d3⟩ := box_one_cells C2.out) | (go_at_call 44; have _t := tok3; refine (small_any 9223372036854775807 (by decide) _).mono ?_; rintro e w3 ⟨v3, n3, l3, rfl, hsi3, _, hn3, hb3⟩; have C3 := Lib.hid (C2.out.trans (hb3.mono (box_one C2.out).2.1)); have HS3 := Lib.hid hsi3; have HN3 := Lib.hid hn3; clear _t tok3 hb3 hsi3 hn3; obtain ⟨d4, d5⟩ := box_one_cells C3.out) | (go_at_call 64; have _t := tok4; refine (cmp_full _ _ _ _ _ _ _ _ _ (HV.out.below (box_one C3.out).2.2) HS3.out).mono ?_; unfold OrdPost; rw [← HN.out, HN3.out, ← HQ2.out]; rintro e w4 ⟨rfl, hb4⟩; have C4 := Lib.hid (C3.out.trans (hb4.mono (box_one C3.out).2.1)); clear _t tok4 hb4; obtain ⟨d6, d7⟩ := box_one_cells C4.out)))
        all_goals
          go_wp2_with fail
          go_meet
          exact ⟨rfl, C4.out⟩
      case rest =>
        obtain ⟨rfl, D2⟩ := hcut
        obtain ⟨d0, d1⟩ := box_one_cells D2.out
        clear C0 tok1 tok2 tok3 tok4
        go_wp2_with fail
        refine (spec_low _ _ _ _ _ (HV.out.below (box_one D2.out).2.2) HL.out).mono ?_
        obtain ⟨a, ha⟩ : ∃ a, a = natOf l % W64 := ⟨_, rfl⟩
        rw [← ha]
        rintro e w5 ⟨rfl, hb5⟩
        have D3 := Lib.hid (D2.out.trans (hb5.mono (box_one D2.out).2.1))
        obtain ⟨d2, d3⟩ := box_one_cells D3.out
        have HB := Lib.hid (box_one D3.out).2.2
        have h1 := H1.out
        have h2 := H2.out
        have hn := HN.out
        unfold intOf2 at hn
        unfold W64 at ha
        clear hb5 d0 d1
        cases neg
        · have ha2 : (a : Int) = n := by simp at hn; omega
          have ha3 : a ≤ 9223372036854775807 := by omega
          have HA := Lib.hid ha2
          have HR : Hid (-9223372036854775808 ≤ n ∧ n ≤ 9223372036854775807) := ⟨by omega, by omega⟩
          clear ha hn h1 h2 ha2
          go_wp2
          go_ret2
          rw [← HA.out] at HR ⊢
          exact s64_yes HR.out HB.out
        · have ha2 : -(a : Int) = n := by simp at hn; omega
          have ha3 : a ≤ 9223372036854775808 := by omega
          obtain ⟨U, hU⟩ : ∃ U : Int, U = IntKind.u64.wrap (-(a : Int)) := ⟨_, rfl⟩
          have hI : IntKind.i64.wrap U = -(a : Int) := by rw [hU, IntKind.wrap_u64, IntKind.wrap_i64]; omega
          have HA := Lib.hid ha2
          have HR : Hid (-9223372036854775808 ≤ n ∧ n ≤ 9223372036854775807) := ⟨by omega, by omega⟩
          have hU2 := hU.symm
          clear ha hn h1 h2 ha2 hU
          go_wp2
          go_ret2
          rw [← HA.out] at HR ⊢
          exact s64_yes HR.out HB.out
end Go.Proofs.YtmpfffcdpecadaaGreat
