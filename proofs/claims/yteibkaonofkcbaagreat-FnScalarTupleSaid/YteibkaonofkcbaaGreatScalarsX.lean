/- Values without parts made values of the package, all of a row. -/
import Derived.Test.YteibkaonofkcbaaGreatScalarX
import Derived.Deep.LoopGhost
set_option linter.unusedSimpArgs false
set_option linter.unusedVariables false
namespace Go.Proofs.YteibkaonofkcbaaGreat
open Go.RowKit
attribute [local go_sem ↓] Go.wp_at_zero Go.wp_at_succ
theorem RowX.form {w : World} {B : Nat} {v : Value} {ps : List (Value × Sx)} (h : RowX w B v ps) : ∃ a c, v = .slice a ps.length c := by
  rcases h.1.2 with ⟨rfl, h0⟩ | ⟨g, cap, cur, rfl, _⟩
  · exact ⟨none, 0, by rw [h0]⟩
  · exact ⟨_, _, rfl⟩
theorem RowT.nil {w : World} {B : Nat} {v : Value} (h : w.ownsRow B 87 1 v 0 []) : RowT w B v [] := ⟨h, fun p hp => by simp at hp⟩
def ScsPost (ps : List (Value × Sx)) (w : World) (e : Ending) (w' : World) : Prop := ∃ u qs, e = .returned (.tuple #[u, .bool true]) ∧ RowT w' w.heap.size u qs ∧ qs.map (·.2) = ps.map (·.2) ∧ Below w.heap.size w w'
set_option maxRecDepth 100000 in
set_option maxHeartbeats 4000000 in
theorem scalars_x (B : Nat) (v : Value) (ps : List (Value × Sx)) (w : World) (hv : RowX w B v ps) (hl : ps.length ≤ 1000) :
    Calls Tryz.prog 20 #[v] w (ScsPost ps w) := by
  obtain ⟨i0, hi0, hz0, hz1, hz2⟩ := info_parts Tryz.infoV
  obtain ⟨n, hn⟩ : ∃ n, n = ps.length := ⟨_, rfl⟩
  obtain ⟨W1, hmk, hown, hg⟩ := run_make_own (P := Tryz.prog) w w.heap.size 56 87 i0 _ 1 Tryz.underlying56 hi0 hz0 hz1 .i64 .i64 n (by rw [hz2]; omega) (by unfold maxLen; omega) (Nat.le_refl _)
  have hbw : Below w.heap.size w W1 := (Below.refl _ w).grown hg (Nat.le_refl _) (by simp)
  obtain ⟨a, c, hva⟩ := hv.form
  rw [← hn] at hva
  have HV := Lib.hid hv
  have HN := Lib.hid hn
  have HO := Lib.hid hown
  have HBW := Lib.hid hbw
  subst hva
  rw [← hn] at hl
  clear hv hn hown hbw hg
  go_enter Tryz.func20, Tryz.ntmps20
  go_wp2_with fail
  go_loopg [2, 3, 4, 14] n (fun k r2 r3 ov jv wr => ∃ (i : Nat) (qs : List (Value × Sx)), r2 = .slice none 0 0 ∧ r3 = .bool false ∧ jv = .int .i64 (i : Int) ∧ k + i = n ∧ Hid (qs.length = i ∧ RowT wr w.heap.size ov qs ∧ qs.map (·.2) = (ps.take i).map (·.2)) ∧ Hid (Below w.heap.size w wr))
  case atStart => exact ⟨0, [], rfl, rfl, rfl, by omega, ⟨rfl, RowT.nil HO.out, rfl⟩, HBW.out⟩
  case round =>
    obtain ⟨i, qs, rfl, rfl, rfl, hk, hrow, hb⟩ := hrel
    have HK := Lib.hid hk
    clear hk
    by_cases hin : i < n
    · have hil : i < ps.length := by rw [← HN.out]; exact hin
      have hd : decide ((i : Int) < (n : Int)) = true := by simp; omega
      have hd' : decide (i < n) = true := by simp; omega
      have hvb := HV.out.below (hb.out)
      obtain ⟨g, cap, neg, aa, m, cc, bb, tx, hve, hS, hpe, c0, c1, c2, c3, c4, c5⟩ := hvb.at i hil
      have hxv := hvb.2 _ (List.getElem_mem hil)
      rw [hpe] at hxv
      injection hve with ha hx2 hx3
      subst ha
      clear hx2 hx3
      have hsz := hb.out.size
      obtain ⟨s, hse⟩ : ∃ s, s = (ps[i]'hil).2 := ⟨_, rfl⟩
      rw [← hse] at hxv c0
      have HNX : Hid ((ps.take (i + 1)).map (·.2) = (ps.take i).map (·.2) ++ [s]) := by
        unfold Hid
        rw [List.take_succ_eq_append_getElem hil, List.map_append, hse]; rfl
      have HB0 := Lib.hid (val_below wr (kx s) neg aa m cc bb tx)
      have HSC := Lib.hid (scalar_x _ s _ (hxv.below HB0.out))
      obtain ⟨kd, hkd⟩ : ∃ kd, kd = kx s := ⟨_, rfl⟩
      unfold pv at HSC
      rw [← hkd] at HSC HB0 c0
      have HROW0 := Lib.hid (hrow.out.2.1.below HB0.out)
      have HQ := Lib.hid hrow.out.1
      have HQM := Lib.hid hrow.out.2.2
      clear hvb hxv hpe hse hkd hrow
      go_wp2_with fail
      refine HSC.out.mono ?_
      rintro e w2 ⟨u, rfl, htv, hb2⟩
      have HB2 := Lib.hid (hb.out.trans ((HB0.out.trans (hb2.mono HB0.out.size)).mono hsz))
      have HROW2 := Lib.hid (HROW0.out.below hb2)
      obtain ⟨ut, ux, hu⟩ := htv.iface
      subst hu
      have HTV := Lib.hid htv
      have hq1000 : qs.length ≤ 1000 := by rw [HQ.out]; omega
      clear hb2 htv
      go_wp2_with (at_builtin; refine wpList_append_t rfl (.tmp 27) (.tmp 29) rfl w2 w.heap.size _ qs HROW2.out rfl (.iface ut ux) s HTV.out rfl rfl hq1000 HB2.out.size ?_; intro v6 w6 hr6 hb6)
      have HR6 : Hid ((qs ++ [(Value.iface ut ux, s)]).length = i + 1 ∧ RowT w6 w.heap.size v6 (qs ++ [(.iface ut ux, s)]) ∧ (qs ++ [(Value.iface ut ux, s)]).map (·.2) = (ps.take (i + 1)).map (·.2)) := by
        refine ⟨by simp [HQ.out], hr6, ?_⟩
        rw [List.map_append, HQM.out, HNX.out]
        rfl
      have HB6 := Lib.hid (HB2.out.trans hb6)
      clear hr6 hb6
      go_roundg (n - (i + 1))
      case measure => have := HK.out; omega
      case rel => exact ⟨i + 1, _, rfl, rfl, by go_num, by have := HK.out; omega, HR6, HB6⟩
    · obtain rfl : i = n := by have := HK.out; omega
      have HR := Lib.hid hrow.out
      have HB9 := Lib.hid hb.out
      clear hrow hb
      go_wp2
      go_ret2
      refine ⟨_, qs, rfl, HR.out.2.1, ?_, HB9.out⟩
      have h := HR.out.2.2
      rw [HN.out, List.take_length] at h
      exact h
end Go.Proofs.YteibkaonofkcbaaGreat
