/- The thin package's replace. -/
import Derived.Test.YthoemgnfklhgjaaGreatDoorRepCall
namespace Go.Proofs.YthoemgnfklhgjaaGreatDoor
open Go.RowKit
attribute [local go_sem ↓] Go.wp_at_zero Go.wp_at_succ
set_option maxRecDepth 100000 in
set_option maxHeartbeats 4000000 in
theorem text_replace (s p q : ByteArray) (B : Nat) (v : Value) (c : Option Int) (w : World) (hs : AsciiT s) (hp : p.size ≤ 60) (hq : q.size ≤ 60) (hc : CountOk c) (hv : CntV w B v c) :
    Calls Tryz.prog 9 #[.string s, .string p, .string q, v] w fun e w' => e = .returned (.tuple #[.string (repB s p q (cntOf c)), .bool true, .bool true]) ∧ Below w.heap.size w w' := by
  obtain ⟨i0, hi0, hz0, hz1, hz2⟩ := info_parts Tryz.infoV
  have HBD := Lib.hid (bounds_cnt B v c w hv (fun n hn => by have := hc n hn; omega))
  clear hv
  go_enter Tryz.func9, Tryz.ntmps9
  go_wp2_with fail
  refine HBD.out.mono ?_
  rintro e w1 ⟨g, m, cc, rfl, hm, hcell, hg, hb1⟩
  have HC1 := Lib.hid hcell
  have HB1 := Lib.hid hb1
  have HM := Lib.hid hm
  clear hcell hb1 hm
  go_wp2_with fail
  have hk := Blk.new w1 9 #[.string p, .string q]
  have HB2 := Lib.hid ((Below.refl w1.heap.size w1).alloc (Nat.le_refl _) (.cells #[.string p, .string q] 9))
  refine (texts_two p q w1.heap.size 2 _ hk.lt ((hk.cell 0).trans rfl) ((hk.cell 1).trans rfl)).mono ?_
  rintro e w3 ⟨v3, rfl, hown, hb3⟩
  have HO3 := Lib.hid hown
  have HB3 := Lib.hid (HB2.out.trans (hb3.mono HB2.out.size))
  have hv3 : ∃ ao n cap, v3 = .slice ao n cap := by
    rcases hown.2 with ⟨hv, _⟩ | ⟨g, cap, cur, hv, _⟩
    · exact ⟨_, _, _, hv⟩
    · exact ⟨_, _, _, hv⟩
  obtain ⟨ao, an, acap, rfl⟩ := hv3
  obtain ⟨news, hnews⟩ : ∃ l : List Value, l = (match c with | none => [] | some n => [.iface 108 (.agg #[.int .i64 n, .pointer none])]) := ⟨_, rfl⟩
  have hnl : news.length = m := by rw [hnews]; have := HM.out; unfold cntN at this; cases c <;> simp at this ⊢ <;> omega
  have hm1 : m ≤ 1 := by rw [← hnl, hnews]; cases c <;> simp
  have hnc : ∀ j u, news[j]? = some u → w3.cell? ((⟨g, 0, none⟩ : Addr).add j) = some u := by
    intro j u hj
    rw [hnews] at hj
    cases c with
    | none => simp at hj
    | some n =>
      match j, hj with
      | 0, hj =>
        simp at hj
        subst hj
        exact (HB3.out.cell (p := ⟨g, 0, none⟩) hg).trans (HC1.out n rfl)
  have hn1 : ∀ u ∈ news, u.oneCell' = true := by
    intro u hu
    rw [hnews] at hu
    cases c with
    | none => simp at hu
    | some n => simp at hu; subst hu; rfl
  have HNW := Lib.hid hnews
  have hsz3 := hb3.size
  have hlt3 := hown.lt
  clear hk hown hb3 hnews
  go_wp2_with (at_builtin; refine wpList_append_own _ rfl (.tmp 25) (.tmp 26) 44 rfl _ 50 i0 _ 1 16 Tryz.underlying44 hi0 hz0 hz1 hz2 rfl (by decide) _ 2 _ rfl HO3.out ⟨g, 0, none⟩ m cc news rfl ?c1 hnc hn1 ?c2 ?c3 ?c4 ?_)
  case c1 => omega
  case c2 => unfold maxLen; omega
  case c3 => omega
  case c4 => exact hsz3
  intro v4 w4 hown4 hg4 _
  have hb4 := (Below.refl _ w3).grown hg4 hsz3 (fun k hk => (hlt3 k hk).1)
  have HB4 := Lib.hid (HB3.out.trans (hb4.mono (by simp)))
  rw [show 2 + m = (m + 1) + 1 by omega] at hown4
  obtain ⟨g4, c4, rfl, _, hg4l, hcell4⟩ := own_row hown4
  have hra : RepArgs w4 g4 p q c := by
    refine ⟨hg4l, ⟨hcell4 0 _ rfl, hcell4 1 _ rfl⟩, fun n hn => ?_⟩
    subst hn
    exact hcell4 2 _ (by rw [HNW.out]; rfl)
  have HRA := Lib.hid hra
  have hmn : m + 1 + 1 = cntN c := HM.out
  have HMN := Lib.hid hmn
  clear hnc hn1 hsz3 hlt3 hown4 hg4 hb4 hcell4 hra hmn hnl
  go_wp2_with fail
  rw [HMN.out]
  refine (zz_rep_pub s p q g4 c4 c _ hs hp hq hc HRA.out).mono ?_
  rintro e w5 ⟨rfl, hb5⟩
  have HB5 := Lib.hid (HB1.out.trans ((HB4.out.trans (hb5.mono HB4.out.size)).mono HB1.out.size))
  clear hb5
  go_wp2_with fail
  refine (of_text _ _).mono ?_
  rintro e w' ⟨rfl, rfl⟩
  go_wp2
  exact bodyPost_ret (v := .tuple #[.string (repB s p q (cntOf c)), .bool true, .bool true]) (by simp [results, Tryz.results9, go_sem]) rfl ⟨rfl, HB5.out⟩
end Go.Proofs.YthoemgnfklhgjaaGreatDoor
