/- The law's walk: any of a list. -/
import Derived.Test.YtmpfffcdpecadaaGreatAnyOf
import Derived.Test.YtmpfffcdpecadaaGreatListOf
namespace Go.Proofs.YtmpfffcdpecadaaGreat
open Go.RowKit
attribute [local go_sem ↓] Go.wp_at_zero Go.wp_at_succ
theorem ListIn.len {W : World} {a : Option Addr} {len cap : Nat} (h : ListIn W a len cap) : len ≤ maxLen := by
  rcases h with ⟨_, h0, _⟩ | ⟨x, _, h1, h2, _⟩
  · rw [h0]; exact Nat.zero_le _
  · exact Nat.le_trans h1 h2
set_option maxRecDepth 100000 in
set_option maxHeartbeats 4000000 in
theorem any_law (a : Option Addr) (len cap : Nat) (w : World) (hl : ListIn w a len cap) :
    Calls Tryz.prog 4 #[.slice a len cap] w fun e w' => e = .returned (.bool true) ∧ Below w.heap.size w w' := by
  have hm := hl.len
  unfold maxLen at hm
  by_cases hbig : 2147483647 < len
  · have d1 : decide ((2147483647 : Int) < (len : Int)) = true := by simp; omega
    clear hl
    go_enter Tryz.func4, Tryz.ntmps4
    go_wp2
    go_ret
    exact ⟨rfl, Below.refl _ _⟩
  · have d1 : decide ((2147483647 : Int) < (len : Int)) = false := by simp; omega
    have HL := Lib.hid (list_of a len cap w hl)
    clear hl
    go_enter Tryz.func4, Tryz.ntmps4
    go_wp2_with fail
    refine HL.out.mono ?_
    rintro e w1 ⟨v, ps, rfl, hv, hps, hb⟩
    obtain ⟨n, hn⟩ : ∃ n, n = ps.length := ⟨_, rfl⟩
    obtain ⟨aa, cc, rfl⟩ := hv.form
    have HI := Lib.hid (impl_any w.heap.size _ ps w1 hv (by omega))
    have HV := Lib.hid hv
    have HB := Lib.hid hb
    have hn12 : n ≤ 12 := by omega
    rw [← hn]
    rw [← hn] at HI
    have HN := Lib.hid hn
    clear hv hb hps hn
    go_wp2_with fail
    refine HI.out.mono ?_
    rintro e w2 ⟨rfl, hb2⟩
    have HB2 := Lib.hid (HB.out.trans (hb2.mono HB.out.size))
    have HV2 := Lib.hid (HV.out.below hb2)
    clear hb2
    obtain ⟨q, hq⟩ : ∃ q, q = ps.any fun p => truthX p.2 := ⟨_, rfl⟩
    have HQ := Lib.hid hq
    rw [← hq]
    clear hq
    go_wp2_with fail
    go_loopg [6, 22] n (fun k t i wr => ∃ j : Nat, i = .int .i64 (j : Int) ∧ j ≤ n ∧ k ≤ n - j ∧ n - j ≤ k ∧ t = .bool ((ps.take j).any fun p => truthX p.2) ∧ Hid (RowX wr w.heap.size (.slice aa ps.length cc) ps) ∧ Hid (Below w.heap.size w wr))
    case atStart => exact ⟨0, rfl, Nat.zero_le _, by omega, by omega, rfl, HV2, HB2⟩
    case round =>
      obtain ⟨j, rfl, hjn, hk1, hk2, rfl, hrow, hbr⟩ := hrel
      obtain ⟨r, hr⟩ : ∃ r, r = (ps.take j).any fun p => truthX p.2 := ⟨_, rfl⟩
      rw [← hr]
      by_cases hj : j < n
      · have d2 : decide ((j : Int) < (n : Int)) = true := by simp; omega
        have hjp : j < ps.length := by rw [← HN.out]; exact hj
        have HXV := Lib.hid (hrow.out.2 _ (List.getElem_mem hjp))
        obtain ⟨g, cap, neg, ax, nx, cx, bx, tx, hv, hg, he, c0, c1, c2, c3, c4, c5⟩ := hrow.out.at j hjp
        obtain ⟨s, hs⟩ : ∃ s, s = (ps[j]'hjp).2 := ⟨_, rfl⟩
        obtain ⟨kd, hkd⟩ : ∃ kd, kd = kx (ps[j]'hjp).2 := ⟨_, rfl⟩
        rw [← hkd] at c0
        injection hv with ha hc1 hc2
        subst ha
        subst hc2
        have HT := Lib.hid (fun (W : World) (h : Below wr.heap.size wr W) => spec_truth _ _ W (HXV.out.below h))
        rw [he, ← hs, hs, ← hkd, ← hs] at HT
        have HR : Hid ((r || truthX s) = ((ps.take (j + 1)).any fun p => truthX p.2)) := by
          rw [List.take_succ_eq_append_getElem hjp, List.any_append, ← hr, List.any_cons, List.any_nil, Bool.or_false, hs]; exact rfl
        unfold pv at HT
        have HROW := Lib.hid hrow.out
        have HBR := Lib.hid hbr.out
        have HAL := Lib.hid ((Below.refl wr.heap.size wr).alloc (Nat.le_refl _) (.cells #[.int .i64 kd, .bool neg, .slice ax nx cx, .int .u64 bx, .string tx, .slice none 0 0] 26))
        have hjn12 : j < 12 := by omega
        clear hrow hbr hs hr hkd he hc1 HXV
        cases r with
        | true =>
          go_wp2_with fail
          go_roundg (n - (j + 1))
          case measure => omega
          case rel => exact ⟨j + 1, by go_num, by omega, by omega, by omega, by rw [← HR.out]; rfl, HROW.out.below HAL.out, HBR.out.trans (HAL.out.mono HBR.out.size)⟩
        | false =>
          go_wp2_with fail
          refine (HT.out _ HAL.out).mono ?_
          rintro e w5 ⟨rfl, hb5⟩
          have HAL5 := Lib.hid (HAL.out.trans (hb5.mono HAL.out.size))
          clear hb5
          go_wp2_with fail
          go_roundg (n - (j + 1))
          case measure => omega
          case rel => exact ⟨j + 1, by go_num, by omega, by omega, by omega, by rw [← HR.out]; rfl, HROW.out.below HAL5.out, HBR.out.trans (HAL5.out.mono HBR.out.size)⟩
      · have d2 : decide ((j : Int) < (n : Int)) = false := by simp; omega
        have HE : Hid (r = q) := by
          rw [hr, HQ.out, List.take_of_length_le (by rw [← HN.out]; omega)]; exact rfl
        have HBR := Lib.hid hbr.out
        obtain rfl : r = q := HE.out
        clear hrow hbr hr
        cases r
        all_goals
          go_wp2
          go_ret
          exact ⟨rfl, HBR.out⟩
end Go.Proofs.YtmpfffcdpecadaaGreat
