/- A script over a tuple. -/
import Derived.Test.YteibkaonofkcbaaGreatOnI
import Derived.Test.YteibkaonofkcbaaGreatRunT
import Derived.Deep.MidRow
namespace Go.Proofs.YteibkaonofkcbaaGreat
open Go.RowKit
set_option linter.unusedSimpArgs false
set_option linter.unusedVariables false
attribute [local go_sem ↓] Go.wp_at_zero Go.wp_at_succ
theorem on_any (B P n tc : Nat) (ta : Option Addr) (pw : Value) (bs : List Nat) (at' at2 : List (Option Nat)) (ts : List (Value × Sx)) (a : AA) (k0 si sj sm : Int) (r0 r1 r2 r3 r4 r5 r6 r7 r8 r9 r10 r11 r12 : Value) (w : World) (h : PS w B P pw bs at' ts) (hseg : SegV w ta n tc ts) (hN : ∀ p ∈ ts, NormX p.2) (h8 : ts.length ≤ 8) (hl : at'.length ≤ 1000) (hB : B ≤ w.heap.size) (hP : B ≤ P)
    (hst : StepR (ts.map (·.2)) at' ⟨k0, si, sj, sm, [r0, r1, r2, r3, r4, r5, r6, r7, r8, r9, r10, r11, r12]⟩ a at2) :
    Calls Tryz.prog 21 #[.slice ta n tc, .pointer (some ⟨P, 0, none⟩), .agg #[.int .i64 k0, .int .i64 si, .int .i64 sj, .int .i64 sm, r0, r1, r2, r3, r4, r5, r6, r7, r8, r9, r10, r11, r12]] w (OnP B P ts at2 a w) := by
  have hn : ts.length = n := hseg.1.1
  have hll : (ts.map (·.2)).length = n := by rw [List.length_map]; exact hn
  cases hst with
  | index i j m r hi =>
    rw [List.length_map] at hi
    have e : (ts.map (·.2))[i]'(by rw [List.length_map]; exact hi) = (ts[i]'hi).2 := by rw [List.getElem_map]
    rw [e]
    exact on_index B P n tc ta pw bs at' ts i sj sm r0 r1 r2 r3 r4 r5 r6 r7 r8 r9 r10 r11 r12 w h hseg hi hN h8
  | slice i j m r hb =>
    rw [hll] at hb
    exact on_slice B P n tc ta pw bs at' ts si sj sm r0 r1 r2 r3 r4 r5 r6 r7 r8 r9 r10 r11 r12 w h hseg hb hN h8
  | len i j m r =>
    rw [hll]
    exact on_len B P n tc ta pw bs at' ts si sj sm r0 r1 r2 r3 r4 r5 r6 r7 r8 r9 r10 r11 r12 w h
  | truth i j m r =>
    rw [hll]
    exact on_truth B P n tc ta pw bs at' ts si sj sm r0 r1 r2 r3 r4 r5 r6 r7 r8 r9 r10 r11 r12 w h
  | opn i j m r => exact on_open B P n tc ta pw bs at' ts si sj sm r0 r1 r2 r3 r4 r5 r6 r7 r8 r9 r10 r11 r12 w h hl hB hP hseg
  | done i c j m r hi => exact on_done B P n tc ta pw bs at' ts i c sj sm r0 r1 r2 r3 r4 r5 r6 r7 r8 r9 r10 r11 r12 w h hl hi
  | nextN i c j m r hi hc =>
    rw [List.length_map] at hc
    refine (on_next B P n tc ta pw bs at' ts i c sj sm r0 r1 r2 r3 r4 r5 r6 r7 r8 r9 r10 r11 r12 w h hl hi hN h8).mono ?_
    rintro e w' ⟨at3, a3, hcase, hon⟩
    rcases hcase with ⟨_, rfl, rfl⟩ | ⟨hc2, _⟩
    · exact hon
    · omega
  | nextY i c j m r hi hc =>
    have hc' : c < ts.length := by rw [List.length_map] at hc; exact hc
    have e : (ts.map (·.2))[c]'hc = (ts[c]'hc').2 := by rw [List.getElem_map]
    rw [e]
    refine (on_next B P n tc ta pw bs at' ts i c sj sm r0 r1 r2 r3 r4 r5 r6 r7 r8 r9 r10 r11 r12 w h hl hi hN h8).mono ?_
    rintro e w' ⟨at3, a3, hcase, hon⟩
    rcases hcase with ⟨hc2, _⟩ | ⟨_, rfl, rfl⟩
    · omega
    · exact hon
def TupPost (al : List AA) (w : World) (e : Ending) (w' : World) : Prop := ∃ v cs, e = .returned v ∧ RowA (fun _ => 7) w' w.heap.size v cs ∧ cs.map (·.2) = al ∧ Below w.heap.size w w'
set_option maxRecDepth 100000 in
set_option maxHeartbeats 8000000 in
theorem scalar_tuple (B1 B2 : Nat) (v sv : Value) (ps : List (Value × Sx)) (ss : List St) (al : List AA) (atE : List (Option Nat)) (w : World) (hx : RowX w B1 v ps) (h8 : ps.length ≤ 8) (hst : RowSt w B2 sv ss) (h60 : ss.length ≤ 60) (hz : ∀ s ∈ ss, s.r = zz13) (hr : Runs (ps.map (·.2)) ss al atE) :
    Calls Tryz.prog 8 #[v, sv] w (TupPost al w) := by
  have HSC := Lib.hid (scalars_x B1 v ps w hx (by omega))
  obtain ⟨hal, f, f0, f1, f2⟩ := hr
  have HAL := Lib.hid hal
  have HF0 := Lib.hid f0
  have HF2 := Lib.hid f2
  have HST := Lib.hid hst
  have HZZ := Lib.hid hz
  have HNM : Hid (∀ s ∈ ps.map (·.2), NormX s) := fun s hs => by
    obtain ⟨p, hp, rfl⟩ := List.mem_map.1 hs
    exact (hx.2 p hp).norm
  obtain ⟨sa, sc, hsv⟩ := hst.form
  obtain ⟨ns, hns⟩ : ∃ ns, ns = ss.length := ⟨_, rfl⟩
  rw [← hns] at hsv h60
  subst hsv
  have HNS := Lib.hid hns
  have HP8 := Lib.hid h8
  clear hal f0 f1 f2 hst hx hns h8 hz
  go_enter Tryz.func8, Tryz.ntmps8
  go_wp2_with fail
  refine HSC.out.mono ?_
  rintro e w1 ⟨u, qs, rfl, hrt, hqm, hb1⟩
  obtain ⟨ta, tc, hu, hseg⟩ := hrt.seg
  have hn8 : qs.length ≤ 8 := by
    have := congrArg List.length hqm
    rw [List.length_map, List.length_map] at this
    have := HP8.out
    omega
  have hsegV : SegV w1 ta qs.length tc qs := ⟨hseg, fun p hp => by
    subst hp
    obtain ⟨cs, hk⟩ := Blk.of_own (g := p.block) (n := 0) (c := 0) hrt.1 (by rw [hu]; rfl)
    exact ⟨cs, hk⟩⟩
  obtain ⟨n, hn⟩ : ∃ n, n = qs.length := ⟨_, rfl⟩
  rw [← hn] at hu hsegV hn8
  subst hu
  obtain ⟨P, hP⟩ : ∃ P, P = w1.heap.size := ⟨_, rfl⟩
  have hbp : Below w1.heap.size w1 (w1.alloc (.cells #[.slice none 0 0] 63)) := (Below.refl _ w1).alloc (Nat.le_refl _) _
  have HPS : Hid (PS (w1.alloc (.cells #[.slice none 0 0] 63)) w.heap.size P (.slice none 0 0) [] [] qs) := ⟨by rw [hP]; exact Blk.new _ _ _, World.ownsRow_nil _ _ _ _, rfl, List.nodup_nil, fun b hb => by simp at hb, fun i c h => by simp at h⟩
  have HSV := Lib.hid (hsegV.below hbp)
  have HBW := Lib.hid (hb1.trans (hbp.mono hb1.size))
  have HPG : Hid (w.heap.size ≤ P) := by rw [hP]; exact hb1.size
  have HQM := Lib.hid hqm
  have HN8 : Hid (qs.length ≤ 8) := by rw [← hn]; exact hn8
  have HNX : Hid (∀ p ∈ qs, NormX p.2) := fun p hp => HNM.out _ (by rw [← hqm]; exact List.mem_map.2 ⟨p, hp, rfl⟩)
  clear hrt hqm hb1 hseg hsegV hbp hn hn8
  go_wp2_with fail
  rw [← hP]
  clear hP
  go_loopg [9, 11, 23] ns (fun k ov s11 jv wr => ∃ (j : Nat) (cs : List (List Value × AA)) (pw : Value) (bs : List Nat), jv = .int .i64 (j : Int) ∧ Hid (k + j = ns) ∧ Hid (RowA (fun _ => 7) wr w.heap.size ov cs ∧ cs.length = j ∧ cs.map (·.2) = al.take j) ∧ Hid (PS wr w.heap.size P pw bs (f j) qs ∧ (f j).length ≤ j) ∧ Hid (SegV wr ta n tc qs) ∧ Hid (Below w.heap.size w wr))
  case atStart => exact ⟨0, [], _, [], rfl, (by show ns + 0 = ns; rfl), ⟨RowA.nil _ _ _, rfl, rfl⟩, by rw [HF0.out]; exact ⟨HPS.out, Nat.le_refl _⟩, HSV.out, HBW.out⟩
  case round =>
    obtain ⟨j, cs, pw, bs, rfl, hk, hrow, hps, hsv, hb⟩ := hrel
    by_cases hin : j < ns
    · have d1 : decide ((j : Int) < (ns : Int)) = true := by simp; omega
      have d2 : decide (j < ns) = true := by simp; omega
      have hj0 : (0 : Int) ≤ (j : Int) := by omega
      have hj1 : (j : Int) < (ns : Int) := by omega
      have hjl : j < ss.length := by rw [← HNS.out]; exact hin
      have hjal : j < al.length := by rw [HAL.out]; exact hjl
      obtain ⟨gS, capS, hve, hgS, _, hcs⟩ := HST.out.at j hjl
      injection hve with ha hx2 hx3
      subst ha
      have hok := HST.out.2 _ (List.getElem_mem hjl)
      have hstep := HF2.out j _ _ (List.getElem?_eq_getElem hjl) (List.getElem?_eq_getElem hjal)
      obtain ⟨s0, hs0⟩ : ∃ s0, s0 = ss[j]'hjl := ⟨_, rfl⟩
      have hzz := HZZ.out _ (List.getElem_mem hjl)
      rw [← hs0] at hcs hok hstep hzz
      obtain ⟨k0, si, sj, sm, rr⟩ := s0
      have hrr : rr = zz13 := hzz
      subst hrr
      obtain ⟨cl, hcl⟩ : ∃ cl, cl = St.cells ⟨k0, si, sj, sm, zz13⟩ := ⟨_, rfl⟩
      rw [← hcl] at hcs
      have hcl17 : cl.length = 17 := by rw [hcl]; rfl
      have hcl1 : ∀ v ∈ cl, v.oneCell' = true := by rw [hcl]; exact St.one hok
      have HRNG : Hid (wr.rangeAt gS (j * 17) cl) := fun q u hq => by
        have hq17 : q < 17 := by rw [← hcl17]; exact (List.getElem?_eq_some_iff.1 hq).1
        exact (hb.out.cell (p := ⟨gS, j * 17 + q, none⟩) hgS).trans ((hcs q hq17).trans hq)
      have HI17 : Hid ((Tryz.prog.info? 35).map (·.size) = some cl.length) := by unfold Hid; rw [hcl17]; kernel_rfl
      have hsz' : cl.toArray.size = 17 := by rw [List.size_toArray, hcl17]
      have HI17a : Hid ((Tryz.prog.info? 35).map (·.size) = some cl.toArray.size) := by unfold Hid; rw [hsz']; kernel_rfl
      have HONE : Hid (cl.toArray.all (·.oneCell') = true) := all_oneCell_toArray hcl1
      obtain ⟨WZ, hWZ⟩ : ∃ WZ, WZ = wr.alloc (.cells #[.int .i64 0, .int .i64 0, .int .i64 0, .int .i64 0, .int .i64 0, .bool false, .slice none 0 0, .int .u64 0, .string ⟨#[]⟩, .slice none 0 0, .int .i64 0, .bool false, .slice none 0 0, .int .u64 0, .string ⟨#[]⟩, .slice none 0 0, .slice none 0 0] 35) := ⟨_, rfl⟩
      have hkz : Blk WZ wr.heap.size 35 #[.int .i64 0, .int .i64 0, .int .i64 0, .int .i64 0, .int .i64 0, .bool false, .slice none 0 0, .int .u64 0, .string ⟨#[]⟩, .slice none 0 0, .int .i64 0, .bool false, .slice none 0 0, .int .u64 0, .string ⟨#[]⟩, .slice none 0 0, .slice none 0 0] := by rw [hWZ]; exact Blk.new wr _ _
      have hbz : Below wr.heap.size wr WZ := by rw [hWZ]; exact (Below.refl _ wr).alloc (Nat.le_refl _) _
      have hsz : cl.toArray.size = 17 := by rw [List.size_toArray, hcl17]
      have HTH : Hid (WZ.there wr.heap.size 0 cl.toArray.size) := by unfold Hid; rw [hsz]; exact there17 hkz
      obtain ⟨W1, hW1⟩ : ∃ W1, W1 = WZ.setCells wr.heap.size 0 cl.toArray.toList := ⟨_, rfl⟩
      have hb1 : Below wr.heap.size wr W1 := by rw [hW1]; exact below_putAll hbz (Nat.le_refl _) _
      have HRB : Hid (W1.rangeAt wr.heap.size 0 cl) := by
        unfold Hid
        rw [hW1]
        have h := World.rangeAt_setCells_same WZ wr.heap.size 0 cl (by have h := HTH.out; rw [hsz] at h; rw [hcl17]; exact h)
        simpa using h
      have HON := Lib.hid (on_any w.heap.size P n tc ta pw bs (f j) (f (j + 1)) qs (al[j]'hjal) k0 si sj sm (.int .i64 0) (.bool false) (.slice none 0 0) (.int .u64 0) (.string ⟨#[]⟩) (.slice none 0 0) (.int .i64 0) (.bool false) (.slice none 0 0) (.int .u64 0) (.string ⟨#[]⟩) (.slice none 0 0) (.slice none 0 0) W1 (hps.out.1.below hb1) (hsv.out.below hb1) HNX.out HN8.out (by have := hps.out.2; omega) (Nat.le_trans hb.out.size hb1.size) HPG.out (by rw [HQM.out]; exact hstep))
      have hclA : cl.toArray = #[.int .i64 k0, .int .i64 si, .int .i64 sj, .int .i64 sm, .int .i64 0, .bool false, .slice none 0 0, .int .u64 0, .string ⟨#[]⟩, .slice none 0 0, .int .i64 0, .bool false, .slice none 0 0, .int .u64 0, .string ⟨#[]⟩, .slice none 0 0, .slice none 0 0] := by rw [hcl]; rfl
      rw [← hclA] at HON
      have HWZ := Lib.hid hWZ
      have HW1 := Lib.hid hW1
      have HLEN : Hid ((f (j + 1)).length ≤ j + 1) := Nat.le_trans (StepR.length hstep) (by have := hps.out.2; omega)
      have HTK : Hid (al.take (j + 1) = al.take j ++ [al[j]'hjal]) := List.take_succ_eq_append_getElem hjal
      have HROW := Lib.hid hrow.out
      have hc1000 : cs.length ≤ 1000 := by rw [hrow.out.2.1]; omega
      have HSV1 := Lib.hid hsv.out
      have HB := Lib.hid hb.out
      have HB1 := Lib.hid hb1
      have HK := Lib.hid hk.out
      clear hx2 hx3 hok hstep hs0 hcs hcl hcl17 hcl1 hclA hW1 hb1 hrow hps hsv hb hk hgS hzz hWZ hkz hbz hsz hsz'
      go_wp2_with (first
        | (refine wpList_load_mid rfl 35 (.tmp 25) rfl gS (j * 17) rfl cl _ HRNG.out Tryz.underlying35 rfl HI17.out ?_)
        | (refine wpList_store_mid rfl 35 (.tmp 11) (.tmp 26) rfl wr.heap.size 0 cl.toArray rfl rfl (by rw [← HWZ.out]; exact HTH.out) HI17a.out HONE.out ?_; rw [← HWZ.out, ← HW1.out])
        | (refine wpList_load_mid rfl 35 (.tmp 11) rfl wr.heap.size 0 rfl cl _ HRB.out Tryz.underlying35 rfl HI17.out ?_)
        | (go_at_call 21; refine HON.out.mono ?_; rintro e w2 ⟨is, nn, k2, neg, aa, mm, cc, b, tx, ka, kn, kc, pw2, bs2, rfl, hra, hps2, S, hS1, hS2, hS3⟩; have HRA2 := Lib.hid hra; have HPS2 := Lib.hid hps2; have HRW2 := Lib.hid ((HROW.out.1.below HB1.out).typ hS2 hS1 (by decide) (by decide) (by decide)); have HSV2 := Lib.hid ((HSV1.out.below HB1.out).typ hS2 hS1 (by decide) (by decide) (by decide)); have HB2 := Lib.hid ((HB.out.trans (HB1.out.mono HB.out.size)).trans (hS1.to_below (Nat.le_trans HB.out.size HB1.out.size) (fun q _ hq => hS3 q hq))); clear hra hps2 hS1 hS2 hS3)
        | (at_builtin; refine wpList_append_ans rfl (.tmp 27) (.tmp 32) rfl w2 w.heap.size _ (fun _ => 7) cs HRW2.out rfl [.bool true, .bool is, .int .i64 nn, .int .i64 k2, .bool neg, .slice aa mm cc, .int .u64 b, .string tx, .slice ka kn kc, .slice none 0 0] (al[j]'hjal) HRA2.out _ rfl rfl rfl hc1000 HB2.out.size ?_; intro v6 w6 hr6 hb6 hg6; have hO6 : Only (fun q => Value.ownBlock u9 = some q) w2 w6 := (Only.refl _ w2).grown hg6 (fun k hk => .inl hk); have hT6 := typ_own HRW2.out.1; have HPS6 := Lib.hid (HPS2.out.typ hT6 hO6 (by decide) (by decide) (by decide) (by decide) (by decide) (by decide)); have HSV6 := Lib.hid (HSV2.out.typ hT6 hO6 (by decide) (by decide) (by decide)); have HR6 := Lib.hid hr6; have HB6 := Lib.hid (HB2.out.trans hb6); clear hr6 hb6 hg6 hO6 hT6))
      go_roundg (ns - (j + 1))
      case measure => have := HK.out; omega
      case rel => exact ⟨j + 1, _, pw2, bs2, by go_num, (by have := HK.out; show ns - (j + 1) + (j + 1) = ns; omega), ⟨HR6.out, by rw [List.length_append, HROW.out.2.1]; rfl, by rw [List.map_append, HROW.out.2.2, HTK.out]; rfl⟩, ⟨HPS6.out, HLEN.out⟩, HSV6.out, HB6.out⟩
    · obtain rfl : j = ns := by have := hk.out; omega
      have HR9 := Lib.hid hrow.out
      have HB9 := Lib.hid hb.out
      have hd : decide ((j : Int) < (j : Int)) = false := by simp
      clear hrow hb hps hsv hk
      go_wp2
      go_ret
      refine ⟨_, cs, rfl, HR9.out.1, ?_, HB9.out⟩
      rw [HR9.out.2.2, HNS.out, ← HAL.out, List.take_length]
end Go.Proofs.YteibkaonofkcbaaGreat
