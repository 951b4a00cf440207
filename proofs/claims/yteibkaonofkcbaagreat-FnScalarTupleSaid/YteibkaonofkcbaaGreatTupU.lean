/- A row of values told; the sign of a number; a slice of a tuple. -/
import Derived.Test.YteibkaonofkcbaaGreatTupJoinN
namespace Go.Proofs.YteibkaonofkcbaaGreat
open Go.RowKit
set_option linter.unusedSimpArgs false
set_option linter.unusedVariables false
attribute [local go_sem ↓] Go.wp_at_zero Go.wp_at_succ
def TellsPost (ps : List (Value × Sx)) (w : World) (e : Ending) (w' : World) : Prop := ∃ q m c qs, e = .returned (.slice q m c) ∧ RowR w' w.heap.size (.slice q m c) qs ∧ qs.length = m ∧ qs.map (·.2) = ps.map (·.2) ∧ Below w.heap.size w w'
set_option maxRecDepth 100000 in
set_option maxHeartbeats 4000000 in
theorem tell_scalars (a : Option Addr) (n c : Nat) (ps : List (Value × Sx)) (w : World) (h : SegT w a n c ps) (hn : ∀ p ∈ ps, NormX p.2) (h1000 : n ≤ 1000) :
    Calls Tryz.prog 48 #[.slice a n c] w (TellsPost ps w) := by
  obtain ⟨i0, hi0, hz0, hz1, hz2⟩ := info_parts Tryz.infoVal
  obtain ⟨W1, hmk, hown, hg⟩ := run_make_own (P := Tryz.prog) w w.heap.size 22 33 i0 _ 6 Tryz.underlying22 hi0 hz0 hz1 .i64 .i64 n (by rw [hz2]; omega) (by unfold maxLen; omega) (Nat.le_refl _)
  have hbw : Below w.heap.size w W1 := (Below.refl _ w).grown hg (Nat.le_refl _) (by simp)
  have HS := Lib.hid h
  have HN := Lib.hid hn
  have HO : Hid (RowR W1 w.heap.size _ []) := ⟨hown, fun p hp => by simp at hp⟩
  have HBW := Lib.hid hbw
  clear h hn hown hbw hg
  go_enter Tryz.func48, Tryz.ntmps48
  go_wp2_with fail
  go_loopg [3, 5, 11] n (fun k ov xv jv wr => ∃ (i : Nat) (qs : List (Value × Sx)), jv = .int .i64 (i : Int) ∧ Hid (k + i = n) ∧ Hid (qs.length = i ∧ RowR wr w.heap.size ov qs ∧ qs.map (·.2) = (ps.take i).map (·.2)) ∧ Hid (Below w.heap.size w wr))
  case atStart => exact ⟨0, [], rfl, (by show n + 0 = n; rfl), ⟨rfl, HO.out, rfl⟩, HBW.out⟩
  case round =>
    obtain ⟨i, qs, rfl, hk, hrow, hb⟩ := hrel
    by_cases hin : i < n
    · have hil : i < ps.length := by rw [HS.out.1]; exact hin
      have hd : decide ((i : Int) < (n : Int)) = true := by simp; omega
      have hd' : decide (i < n) = true := by simp; omega
      have hi0' : (0 : Int) ≤ (i : Int) := by omega
      have hi1 : (i : Int) < (n : Int) := by omega
      obtain ⟨p, t, x, rfl, he, hc⟩ := (HS.out.below hb.out).at i hil
      have htv := (HS.out.below hb.out).2.2.2.2.2 _ (List.getElem_mem hil)
      have HTL := Lib.hid (tell_scalar _ _ wr htv (HN.out _ (List.getElem_mem hil)))
      rw [he] at HTL
      obtain ⟨s, hse⟩ : ∃ s, s = (ps[i]'hil).2 := ⟨_, rfl⟩
      rw [← hse] at HTL
      have HNX : Hid ((ps.take (i + 1)).map (·.2) = (ps.take i).map (·.2) ++ [s]) := by
        unfold Hid
        rw [List.take_succ_eq_append_getElem hil, List.map_append, hse]; rfl
      have HROW := Lib.hid hrow.out
      have HB := Lib.hid hb.out
      have HK := Lib.hid hk.out
      clear hrow hb hk htv he hse
      go_wp2_with fail
      refine HTL.out.mono ?_
      rintro e w2 ⟨v2, rfl, hv2, hb2⟩
      have HB2 := Lib.hid (HB.out.trans (hb2.mono HB.out.size))
      have HROW2 := Lib.hid (HROW.out.2.1.below hb2)
      obtain ⟨n1, a1, m1, c1, b1, x1, rfl⟩ := hv2.form
      obtain ⟨kd, hkd⟩ : ∃ kd, kd = kx s := ⟨_, rfl⟩
      rw [← hkd] at hv2 ⊢
      have HV2 := Lib.hid hv2
      have hq1000 : qs.length ≤ 1000 := by rw [HROW.out.1]; omega
      clear hb2 hv2 hkd
      unfold pv
      go_wp2_with (at_builtin; refine wpList_append_r rfl (.tmp 15) (.tmp 18) rfl w2 w.heap.size _ qs HROW2.out rfl (pv kd n1 a1 m1 c1 b1 x1 none 0 0) s _ HV2.out rfl rfl rfl hq1000 HB2.out.size ?_; intro v6 w6 hr6 hb6; have HR6 := Lib.hid hr6; have HB6 := Lib.hid (HB2.out.trans hb6); clear hr6 hb6)
      go_roundg (n - (i + 1))
      case measure => have := HK.out; omega
      case rel => exact ⟨i + 1, _, by go_num, (by have := HK.out; show n - (i + 1) + (i + 1) = n; omega), ⟨by rw [List.length_append, HROW.out.1]; rfl, HR6.out, by rw [List.map_append, HROW.out.2.2, HNX.out]; rfl⟩, HB6.out⟩
    · obtain rfl : i = n := by have := hk.out; omega
      have HR := Lib.hid hrow.out
      have HB9 := Lib.hid hb.out
      obtain ⟨qa, qc, hq⟩ := hrow.out.2.1.form
      rw [hrow.out.1] at hq
      subst hq
      have hd : decide ((i : Int) < (i : Int)) = false := by simp
      clear hrow hb
      go_wp2
      go_ret
      refine ⟨qa, i, qc, qs, rfl, HR.out.2.1, HR.out.1, ?_, HB9.out⟩
      have h := HR.out.2.2
      rw [← HS.out.1, List.take_length] at h
      exact h
def sg (x : Int) : Int := if 0 < x then 1 else if x < 0 then -1 else 0
set_option maxRecDepth 20000 in
theorem signum64_small (x : Int) (w : World) (h0 : -10 ≤ x) (h1 : x ≤ 10) : Calls Tryz.prog 75 #[.int .i64 x] w fun e w' => e = .returned (.int .i64 (sg x)) ∧ w = w' := by
  have h : x = -10 ∨ x = -9 ∨ x = -8 ∨ x = -7 ∨ x = -6 ∨ x = -5 ∨ x = -4 ∨ x = -3 ∨ x = -2 ∨ x = -1 ∨ x = 0 ∨ x = 1 ∨ x = 2 ∨ x = 3 ∨ x = 4 ∨ x = 5 ∨ x = 6 ∨ x = 7 ∨ x = 8 ∨ x = 9 ∨ x = 10 := by omega
  clear h0 h1
  rcases h with rfl | rfl | rfl | rfl | rfl | rfl | rfl | rfl | rfl | rfl | rfl | rfl | rfl | rfl | rfl | rfl | rfl | rfl | rfl | rfl | rfl
  all_goals
    go_enter Tryz.func75, Tryz.ntmps75
    go_wp2
    go_ret
    exact ⟨by first | rfl | exact ret_int (by kernel_rfl), rfl⟩
theorem signum_small (x : Int) (w : World) (h0 : -10 ≤ x) (h1 : x ≤ 10) : Calls Tryz.prog 64 #[.int .i64 x] w fun e w' => e = .returned (.int .i64 (sg x)) ∧ w = w' := by
  have H := Lib.hid (signum64_small x w h0 h1)
  generalize sg x = y at *
  go_enter Tryz.func64, Tryz.ntmps64
  go_wp2_with fail
  refine H.out.mono ?_
  rintro e w' ⟨rfl, rfl⟩
  go_wp2
  go_ret
  exact ⟨rfl, rfl⟩
end Go.Proofs.YteibkaonofkcbaaGreat
