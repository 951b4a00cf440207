/- The reference's slices: Ends, Cut. -/
import Derived.Test.YteibkaonofkcbaaGreatTupJoinN
import Derived.Test.YteibkaonofkcbaaGreatScalT
namespace Go.Proofs.YteibkaonofkcbaaGreat
open Go.RowKit
set_option linter.unusedSimpArgs false
set_option linter.unusedVariables false
attribute [local go_sem ↓] Go.wp_at_zero Go.wp_at_succ
def EndsPost (n : Nat) (w : World) (e : Ending) (w' : World) : Prop := ∃ i j m : Int, e = .returned (.tuple #[.int .i64 i, .int .i64 j, .int .i64 m]) ∧ Bnd n i j m ∧ w = w'
set_option maxRecDepth 20000 in
theorem ends_any (n : Nat) (i e s : Int) (w : World) (hn : n ≤ 100) :
    Calls Tryz.prog 30 #[.int .i64 (n : Int), .int .i64 i, .int .i64 e, .int .i64 s] w (EndsPost n w) := by
  have HT := Lib.hid (turn_any s 9 w (by omega) (by omega))
  have HT2 := Lib.hid (turn_any i ((n : Int) + 1) w (by omega) (by omega))
  have HT3 := Lib.hid (fun M (h0 : 0 < M) (h1 : M ≤ 1000) => turn_any e M w h0 h1)
  have hn' : (n : Int) ≤ 100 := by omega
  have hn0 : (0 : Int) ≤ (n : Int) := by omega
  clear hn
  go_enter Tryz.func30, Tryz.ntmps30
  go_wp2_with fail
  refine HT.out.mono ?_
  rintro e1 w1 ⟨r, rfl, hr0, hr1, rfl⟩
  by_cases h4 : 4 ≤ r
  · have d1 : decide (0 ≤ r - 4) = true := by simp; omega
    have d2 : decide (4 ≤ r) = true := by simp; omega
    go_wp2_with fail
    refine HT2.out.mono ?_
    rintro e1 w1 ⟨r2, rfl, hs0, hs1, rfl⟩
    go_wp2_with fail
    refine (HT3.out _ (by omega) (by omega)).mono ?_
    rintro e1 w1 ⟨r3, rfl, ht0, ht1, rfl⟩
    have hb : Bnd n r2 (r2 + r3) (r - 4 + 1) := .inl ⟨by omega, by omega, by omega, by omega, by omega⟩
    have HBN := Lib.hid hb
    clear hb
    go_wp2
    refine bodyPost_ret (results_tmp3 Tryz.results30 _ _ _) rfl ⟨_, _, _, rfl, HBN.out, rfl⟩
  · have d1 : decide (0 ≤ r - 4) = false := by simp; omega
    have d2 : decide (4 ≤ r) = false := by simp; omega
    go_wp2_with fail
    refine HT2.out.mono ?_
    rintro e1 w1 ⟨r2, rfl, hs0, hs1, rfl⟩
    go_wp2_with fail
    refine (HT3.out _ (by omega) (by omega)).mono ?_
    rintro e1 w1 ⟨r3, rfl, ht0, ht1, rfl⟩
    have hb : Bnd n (r2 - 1) (r3 - 1) (r - 4) := .inr ⟨by omega, by omega, by omega, by omega, by omega⟩
    have HBN := Lib.hid hb
    clear hb
    go_wp2
    refine bodyPost_ret (results_tmp3 Tryz.results30 _ _ _) rfl ⟨_, _, _, rfl, HBN.out, rfl⟩
def CutXPost (l : List Sx) (i e s : Int) (w : World) (x : Ending) (w' : World) : Prop := ∃ v qs, x = .returned v ∧ RowX w' w.heap.size v qs ∧ qs.map (·.2) = cutX l 9 i e s ∧ Below w.heap.size w w'
set_option maxRecDepth 100000 in
set_option maxHeartbeats 4000000 in
theorem cutx_any (B n c : Nat) (a : Option Addr) (ps : List (Value × Sx)) (i0 e s : Int) (w : World) (hx : RowX w B (.slice a n c) ps) (hn : ps.length = n) (h8 : n ≤ 8) (hb : Bnd n i0 e s) :
    Calls Tryz.prog 31 #[.slice a n c, .int .i64 i0, .int .i64 e, .int .i64 s] w (CutXPost (ps.map (·.2)) i0 e s w) := by
  have HX := Lib.hid hx
  have HN := Lib.hid hn
  have HCI := Lib.hid (hb.cutIn h8)
  clear hx hn hb
  go_enter Tryz.func31, Tryz.ntmps31
  go_wp2_with fail
  go_loopg [9, 10] 9 (fun k ov iv wr => ∃ (i : Int) (qs : List (Value × Sx)), iv = .int .i64 i ∧ Hid (CutIn n k i e s) ∧ Hid (qs.map (·.2) ++ cutX (ps.map (·.2)) k i e s = cutX (ps.map (·.2)) 9 i0 e s ∧ RowX wr w.heap.size ov qs ∧ qs.length + k ≤ 9) ∧ Hid (Below w.heap.size w wr))
  case atStart => exact ⟨i0, [], rfl, HCI.out, ⟨rfl, RowX.nil _ _, by simp⟩, Below.refl _ _⟩
  case round =>
    obtain ⟨i, qs, rfl, hci, hrow, hbw⟩ := hrel
    by_cases hc : (0 < s ∧ i < e) ∨ (s < 0 ∧ e < i)
    · obtain ⟨j, q, rfl, hjn, hkq, hnext, hcut⟩ := hci.out.more hc
      have hjl : j < ps.length := by rw [HN.out]; exact hjn
      have hj0 : (0 : Int) ≤ (j : Int) := by omega
      have hj1 : (j : Int) < (n : Int) := by omega
      have hj8 : (j : Int) ≤ 8 := by omega
      have hs5 : s ≤ 5 := by rcases hci.out with ⟨h1, h2, _⟩ | ⟨h1, h2, _⟩ <;> omega
      have hs4 : -4 ≤ s := by rcases hci.out with ⟨h1, h2, _⟩ | ⟨h1, h2, _⟩ <;> omega
      have hvb := HX.out.below hbw.out
      obtain ⟨g, cap, neg, aa, m, cc, bb, tx, hve, hgl, hpe, c0, c1, c2, c3, c4, c5⟩ := hvb.at j hjl
      have hxv := hvb.2 _ (List.getElem_mem hjl)
      obtain ⟨y, hy⟩ : ∃ y, y = (ps[j]'hjl).2 := ⟨_, rfl⟩
      rw [hpe, ← hy] at hxv
      rw [← hy] at c0
      injection hve with ha hx2 hx3
      subst ha
      clear hx2 hx3
      have HXV := Lib.hid hxv
      have hgd : (ps.map (·.2)).getD j .none = y := by rw [List.getD_eq_getElem?_getD, List.getElem?_map, List.getElem?_eq_getElem hjl, hy]; rfl
      have HCUT := Lib.hid (hcut (ps.map (·.2)))
      rw [hgd] at HCUT
      have HROW := Lib.hid hrow.out
      have HNEXT := Lib.hid hnext
      have HBW := Lib.hid hbw.out
      have hq1000 : qs.length ≤ 1000 := by have := hrow.out.2.2; omega
      have HKQ := Lib.hid hkq
      obtain ⟨kd, hkd⟩ : ∃ kd, kd = kx y := ⟨_, rfl⟩
      rw [← hkd] at c0 HXV
      have HKD := Lib.hid hkd
      clear hvb hxv hpe hgd hcut hnext hrow hci hbw hkq hkd hy
      rcases hc with ⟨h1, h2⟩ | ⟨h1, h2⟩
      · have d1 : decide (0 < s) = true := by simp; omega
        have d2 : decide ((j : Int) < e) = true := by simp; omega
        go_wp2_with (at_builtin; refine wpList_append_val rfl (.tmp 31) (.tmp 36) rfl _ w.heap.size _ qs HROW.out.2.1 rfl (pv kd neg aa m cc bb tx none 0 0) y _ HXV.out rfl rfl rfl hq1000 HBW.out.size ?_; intro v6 w6 hr6 hb6; have HR6 := Lib.hid hr6; have HB6 := Lib.hid hb6; clear hr6 hb6)
        go_roundg q
        case measure => have := HKQ.out; omega
        case rel => exact ⟨(j : Int) + s, _, rfl, HNEXT.out, ⟨by have h := HROW.out.1; rw [HCUT.out] at h; rw [List.map_append, List.append_assoc]; exact h, HR6.out, by have h := HROW.out.2.2; have h2 := HKQ.out; rw [List.length_append]; simp; omega⟩, HBW.out.trans HB6.out⟩
      · have d1 : decide (0 < s) = false := by simp; omega
        have d2 : decide (e < (j : Int)) = true := by simp; omega
        have d3 : decide (s < 0) = true := by simp; omega
        go_wp2_with (at_builtin; refine wpList_append_val rfl (.tmp 31) (.tmp 36) rfl _ w.heap.size _ qs HROW.out.2.1 rfl (pv kd neg aa m cc bb tx none 0 0) y _ HXV.out rfl rfl rfl hq1000 HBW.out.size ?_; intro v6 w6 hr6 hb6; have HR6 := Lib.hid hr6; have HB6 := Lib.hid hb6; clear hr6 hb6)
        go_roundg q
        case measure => have := HKQ.out; omega
        case rel => exact ⟨(j : Int) + s, _, rfl, HNEXT.out, ⟨by have h := HROW.out.1; rw [HCUT.out] at h; rw [List.map_append, List.append_assoc]; exact h, HR6.out, by have h := HROW.out.2.2; have h2 := HKQ.out; rw [List.length_append]; simp; omega⟩, HBW.out.trans HB6.out⟩
    · have hs0 : 0 < s ∨ s < 0 := by rcases hci.out with ⟨h1, _⟩ | ⟨h1, _⟩ <;> omega
      rcases hs0 with h1 | h1
      · have d1 : decide (0 < s) = true := by simp; omega
        have d2 : decide (i < e) = false := by simp; omega
        have d3 : decide (s < 0) = false := by simp; omega
        have HR9 := Lib.hid hrow.out
        have HBW9 := Lib.hid hbw.out
        have HE := Lib.hid (cutX_end (l := ps.map (·.2)) (k := gk) hc)
        clear hci hrow hbw hc
        go_wp2
        go_ret
        exact ⟨_, qs, rfl, HR9.out.2.1, by have h := HR9.out.1; rw [HE.out, List.append_nil] at h; exact h, HBW9.out⟩
      · have d1 : decide (0 < s) = false := by simp; omega
        have d2 : decide (e < i) = false := by simp; omega
        have d3 : decide (s < 0) = true := by simp; omega
        have HR9 := Lib.hid hrow.out
        have HBW9 := Lib.hid hbw.out
        have HE := Lib.hid (cutX_end (l := ps.map (·.2)) (k := gk) hc)
        clear hci hrow hbw hc
        go_wp2
        go_ret
        exact ⟨_, qs, rfl, HR9.out.2.1, by have h := HR9.out.1; rw [HE.out, List.append_nil] at h; exact h, HBW9.out⟩
end Go.Proofs.YteibkaonofkcbaaGreat
