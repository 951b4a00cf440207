/- The long division's frame: the walk. -/
import Derived.Test.YtndeolcamgnmdaaGreatDoorDivLp
import Derived.Test.YtndeolcamgnmdaaGreatDoorDivBasX
import Derived.Test.YtndeolcamgnmdaaGreatDoorVecS
import Derived.Deep.DeepCutAuto
import Derived.Defers
set_option linter.unusedVariables false
set_option linter.unusedSimpArgs false
set_option linter.unnecessarySimpa false
namespace Go.Proofs.YtndeolcamgnmdaaGreatDoor
open Go.RowKit
/-- The threshold, as the program's text lays it. -/
def Thr (w : World) : Prop := w.cell? ⟨0, 0, none⟩ = some (.int .i64 40)
theorem Thr.lt {w : World} (h : Thr w) : 0 < w.heap.size := World.block_lt_of_cell? w _ h
theorem Thr.below {w w' : World} {B : Nat} (h : Thr w) (hb : Below B w w') (hB : 0 < B) : Thr w' := (hb.cell (p := ⟨_, _, none⟩) hB).trans h
def DivLPost (B R st : Nat) (w : World) (e : Ending) (w' : World) : Prop :=
  ∃ vq vr qs rs l D, e = .returned (.tuple #[vq, vr]) ∧ OW w' B vq qs ∧ OW w' B vr rs ∧ qs.length ≤ 1000 ∧ rs.length ≤ 1000 ∧ TopNZ rs ∧ valW rs = R ∧ StkS w' st l D ∧ (∀ si gr c, D = some (si, gr, c) → B ≤ si) ∧ Below B w w'
theorem nat_upto0 (w : World) (g l c k : Nat) (hk : k ≤ c) :
    (Instr.slice 58 (.slice (some ⟨g, 0, none⟩) l c) none (some (.int .i64 (k : Int))) none).run Tryz.prog w = .ok (.slice (some ⟨g, 0, none⟩) k c) w := nat_upto_i w g l c k hk
theorem nat_any (st n : Nat) (h1 : 1 ≤ n) (h2 : n ≤ 100) (w : World) (h : StkS w st 0 none) :
    Calls Tryz.prog 70 #[.pointer (some ⟨st, 0, none⟩), .int .i64 (n : Int)] w (NatPost st n 0 none w) := by
  rcases h with ⟨_, h, _⟩ | ⟨_, _, _, h, _⟩
  · by_cases h4 : n ≤ 4
    · exact stk_small st n h1 h4 w h
    · exact stk_big st n (by omega) h2 w h
  · cases h
set_option maxRecDepth 20000 in
set_option maxHeartbeats 4000000 in
theorem div_large (B st gx nu cx gy n cy Bx By d : Nat) (us vs : List Nat) (w : World) (hx : OW w Bx (.slice (some ⟨gx, 0, none⟩) nu cx) us) (hy : OW w By (.slice (some ⟨gy, 0, none⟩) n cy) vs) (hn : 2 ≤ n) (hnu : n ≤ nu) (hn2 : n < 40) (hnu2 : nu ≤ 48) (hd : vs[n - 1]? = some d) (hd0 : 0 < d)
    (hst : StkS w st 0 none) (hBs : B ≤ st) (hB : B ≤ w.heap.size) (hT : Thr w) (hTB : 0 < B) (hxs : gx ≠ st) (hys : gy ≠ st) :
    Calls Tryz.prog 57 #[.slice none 0 0, .pointer (some ⟨st, 0, none⟩), .slice none 0 0, .slice (some ⟨gx, 0, none⟩) nu cx, .slice (some ⟨gy, 0, none⟩) n cy] w (DivLPost B (valW us % valW vs) st w) := by
  have hul := hx.len
  have hvl := hy.len
  have hdW : d < W64 := hy.2 _ (List.mem_of_getElem? hd)
  obtain ⟨hz1, hz2, hz3⟩ := nz_norm d hd0 hdW
  have HNLZ := Lib.hid (nlz_w d hdW)
  rw [show 64 - Lib.bitLen d = nz d from rfl] at HNLZ
  obtain ⟨s, hs⟩ : ∃ s, s = nz d := ⟨_, rfl⟩
  rw [← hs] at HNLZ hz1 hz2 hz3
  obtain ⟨n1, hn1i, hn1e⟩ : ∃ n1 : Nat, (n : Int) - 1 = (n1 : Int) ∧ n1 = n - 1 := ⟨n - 1, by omega, rfl⟩
  obtain ⟨nn, hnni, hnne⟩ : ∃ nn : Nat, (nu : Int) + 1 = (nn : Int) ∧ nn = nu + 1 := ⟨nu + 1, by omega, rfl⟩
  obtain ⟨m0, hm0i, hm0e⟩ : ∃ m0 : Nat, (nu : Int) - (n : Int) = (m0 : Int) ∧ m0 = nu - n := ⟨nu - n, by omega, rfl⟩
  obtain ⟨m1, hm1i, hm1e⟩ : ∃ m1 : Nat, (m0 : Int) + 1 = (m1 : Int) ∧ m1 = nu - n + 1 := ⟨nu - n + 1, by omega, rfl⟩
  have cd : w.cell? ⟨gy, n1, none⟩ = some (.int .u64 (d : Int)) := by
    have h := hy.wa.at hd
    rw [Nat.zero_add, ← hn1e] at h
    exact h
  have hn1n : (n1 : Int) < (n : Int) := by omega
  have HSV := Lib.hid (stk_save st 0 none w hst)
  have HNAT := Lib.hid (nat_any st n (by omega) (by omega) w hst)
  have HX := Lib.hid hx
  have HY := Lib.hid hy
  have HT := Lib.hid hT
  have HST := Lib.hid hst
  have HF := Lib.hid (And.intro hul (And.intro hvl (And.intro hd (And.intro hz1 (And.intro hz2 hz3)))))
  have HE := Lib.hid (And.intro hn1e (And.intro hnne (And.intro hm0e hm1e)))
  obtain ⟨R, hR⟩ : ∃ R, R = valW us % valW vs := ⟨_, rfl⟩
  rw [← hR]
  have HR := Lib.hid hR
  rw [show ((0 : Nat) : Int) = 0 from rfl] at HSV
  clear hx hy hul hvl hd hd0 hdW hz1 hz2 hz3 hs hn1e hnne hm0e hm1e hst hT hR
  go_enter_defers Tryz.func57, Tryz.ntmps57
  go_wp2_with fail
  refine HSV.out.mono ?_
  rintro e w' ⟨rfl, rfl⟩
  go_wp2_with fail
  refine (HNLZ.out _).mono ?_
  rintro e w' ⟨rfl, rfl⟩
  go_wp2_with fail
  refine HNAT.out.mono ?_
  rintro e w1 ⟨gv, ov, cvx, cv, l', D', rfl, q1, q2, q3, q4, q5, q6, q7, q8, q9, q10⟩
  have hgv : w.heap.size ≤ gv := by
    rcases q8 with h | ⟨_, _, h, _⟩
    · exact h
    · cases h
  have hD' : ∀ si gr c, D' = some (si, gr, c) → w.heap.size ≤ si ∧ w.heap.size ≤ gr ∧ si ≠ gv ∧ (gr = gv → ov + n ≤ l') := fun si gr c h => by
    obtain ⟨a1, a2, a3, a4⟩ := q10 si gr c h
    refine ⟨?_, ?_, a3, a4⟩
    · rcases a1 with a | ⟨_, _, a⟩
      · exact a
      · cases a
    · rcases a2 with a | ⟨_, _, a⟩
      · exact a
      · cases a
  have hb1 : Below B w w1 := ⟨q7.os, q7.tape, q7.output, q7.size, fun b hb => q7.block b (by omega) (by omega) (fun _ _ _ h => by cases h)⟩
  have hw1s := q7.size
  have HX1 : Hid (∀ j (h : j < us.length), w1.cell? ⟨gx, j, none⟩ = some (.int .u64 ((us[j]'h : Nat) : Int))) := fun j hj => q7.cell gx j _ hxs (fun _ _ _ h => by cases h) (HX.out.cell j hj)
  have HY1 : Hid (∀ j (h : j < vs.length), w1.cell? ⟨gy, j, none⟩ = some (.int .u64 ((vs[j]'h : Nat) : Int))) := fun j hj => q7.cell gy j _ hys (fun _ _ _ h => by cases h) (HY.out.cell j hj)
  have HXR := Lib.hid (q7.row gx cx hxs (fun _ _ _ h => by cases h) HX.out.rowB)
  have HYR := Lib.hid (q7.row gy cy hys (fun _ _ _ h => by cases h) HY.out.rowB)
  have hgxl := HX.out.rowB.lt
  have hgyl := HY.out.rowB.lt
  have HM := Lib.hid (nat_make nn (by have := HE.out.2.1; omega) w1)
  have Q := Lib.hid (And.intro q1 (And.intro q2 (And.intro q3 (And.intro q4 (And.intro hD' (And.intro hb1 (And.intro q9 q6)))))))
  clear q1 q2 q3 q4 q5 q6 q7 q8 q9 q10 hb1 hD' HSV HNLZ HNAT
  go_wp2_with fail
  refine HM.out.mono ?_
  rintro e w2 ⟨⟨v, rfl, how⟩, hb2⟩
  rcases how.form with ⟨_, h⟩ | ⟨gu, cu, hv, hgu, hgul, hcu, hcum⟩
  · exfalso; have h3 := congrArg List.length h; have h4 := HE.out.2.1; rw [List.length_replicate, List.length_nil] at h3; omega
  rw [List.length_replicate] at hv hcu
  subst hv
  have hnnc : nu < nn := by have := HE.out.2.1; omega
  have hgvl := Q.out.1.lt
  have hrv : RowB w2 gv cv := rowB_below Q.out.1 hb2 Q.out.1.lt
  have hru : RowB w2 gu cu := how.rowB
  have hsk : StkS w2 st l' D' := Q.out.2.2.2.1.bel hb2 (Q.out.2.2.2.1.lt).1 (Q.out.2.2.2.1.lt).2
  have HXA : Hid (WA w2 gx 0 us) := wa_below (fun j hj => by rw [Nat.zero_add]; exact HX1.out j hj) hb2 (by omega)
  have HYA : Hid (WA w2 gy 0 vs) := wa_below (fun j hj => by rw [Nat.zero_add]; exact HY1.out j hj) hb2 (by omega)
  have HB2 := Lib.hid (Q.out.2.2.2.2.2.1.trans (hb2.mono (by omega)))
  have hgvu : gv ≠ gu := by omega
  have hgxv : gx ≠ gv := by omega
  have hgyv : gy ≠ gv := by omega
  have hgxu : gx ≠ gu := by omega
  have hgyu : gy ≠ gu := by omega
  have hguB : B ≤ gu := by omega
  have hgvB : B ≤ gv := by omega
  have HRV := Lib.hid hrv
  have HRU := Lib.hid hru
  have HSK := Lib.hid hsk
  have HCU := Lib.hid (And.intro hcu hcum)
  have hnc : nu ≤ cu := by omega
  have hnnc2 : nn ≤ cu := hcu
  have hw2s := hb2.size
  clear how hb2 hrv hru hsk hcu hcum HM HX1 HY1
  go_upto_if 40 with fail
  go_cut [] from 40 to 69 (fun wx => ∃ (wz : World) (vs' us' : List Nat) (t v1 v2 : Nat), wz = wx ∧ Hid (Scaled gv ov n gu nu s vs us vs' us' t v1 v2 wx) ∧ Hid (RowB wx gv cv ∧ RowB wx gu cu ∧ StkS wx st l' D' ∧ Below B w wx ∧ w2.heap.size ≤ wx.heap.size))
  case first =>
    have hsu : ∀ W, (Instr.slice 58 (.slice (some ⟨gu, 0, none⟩) nn cu) none (some (.int .i64 (nu : Int))) none).run Tryz.prog W = .ok (.slice (some ⟨gu, 0, none⟩) nu cu) W := fun W => nat_upto0 W gu nn cu nu hnc
    have hnni2 : (nu : Int) < (nn : Int) := by omega
    by_cases hs0 : s = 0
    · subst hs0
      rw [show ((0 : Nat) : Int) = 0 from rfl]
      go_wp2_with (first
        | (refine wpList_copy_wa (o := ⟨some 43, _, _, _, _, _⟩) rfl (.tmp 41) (.tmp 42) rfl gv ov n cvx gy 0 cy cv vs rfl rfl HRV.out Q.out.2.1 HF.out.2.1.symm HYA.out ?_; intro w3 hwa3 hwr3; have HWA3 := Lib.hid hwa3; have HWR3 := Lib.hid hwr3; have HRU3 := Lib.hid (hwr3.rowB HRU.out); have HX3 := Lib.hid (HXA.out.keep hwr3 (.inl hgxv)); clear hwa3 hwr3)
        | (refine wpList_copy_wa (o := ⟨some 49, _, _, _, _, _⟩) rfl (.tmp 47) (.tmp 48) rfl gu 0 nu cu gx 0 cx cu us rfl rfl HRU3.out (by omega) HF.out.1.symm HX3.out ?_; intro w4 hwa4 hwr4; have hru4 := hwr4.rowB HRU3.out; obtain ⟨uu, huu⟩ := hru4.some (i := nu) (by omega); have hfz := hru4.free nu; have hgl4 := hru4.lt; have HWA4 := Lib.hid hwa4; have HWR4 := Lib.hid hwr4; have HRU4 := Lib.hid hru4; clear hwa4 hwr4 hru4))
      go_meet
      have hset : Wr gu nu 1 w4 (w4.setCell ⟨gu, nu, none⟩ (.int .u64 0)) := (Wr.refl gu nu 1 w4).set (Nat.le_refl _) (Nat.lt_succ_self _) _
      have hv5 : WA (w4.setCell ⟨gu, nu, none⟩ (.int .u64 0)) gv ov vs := (HWA3.out.keep HWR4.out (.inl hgvu)).keep hset (.inl hgvu)
      have hu5 : WA (w4.setCell ⟨gu, nu, none⟩ (.int .u64 0)) gu 0 (us ++ [0]) := by
        have h := HWA4.out.put (i := nu) (x := 0) HF.out.1.symm HRU4.out (by omega)
        rw [Nat.zero_add] at h
        exact h
      obtain ⟨t, v1, v2, hSC⟩ := scaled_of (s := 0) (c := 0) hn HF.out.2.1.symm HY.out.2 HF.out.2.2.1 HF.out.2.2.2.1 HF.out.2.2.2.2.1 (by omega) HF.out.1.symm HX.out.2 0 HF.out.2.1.symm HY.out.2 (by simp) HF.out.1.symm HX.out.2 (by simp) hv5 hu5
      exact ⟨_, vs, us ++ [0], t, v1, v2, rfl, hSC, hset.rowB (HWR4.out.rowB (HWR3.out.rowB HRV.out)), hset.rowB HRU4.out, ((HSK.out.wr HWR3.out HRV.out).wr HWR4.out HRU3.out).wr hset HRU4.out, ((HB2.out.trans (HWR3.out.below hgvB (by omega))).trans (HWR4.out.below hguB (by have := HWR3.out.size; omega))).trans (hset.below hguB (by have := HWR3.out.size; have := HWR4.out.size; omega)), Nat.le_trans HWR3.out.size (Nat.le_trans HWR4.out.size hset.size)⟩
    · have hsd : ((s : Int) == 0) = false := by rw [beq_eq_false_iff_ne]; omega
      have HL1 := Lib.hid (lsh_r gv ov cv gy 0 n cvx cy s vs w2 HRV.out Q.out.2.1 (by omega) HF.out.2.1.symm (by omega) HF.out.2.2.2.2.2 (by omega) HYA.out (OkL.apart hgyv) HY.out.2)
      go_wp2_with fail
      refine HL1.out.mono ?_
      rintro e w3 ⟨c1, rv, rfl, hrl1, hrW1, hval1, hwa3, hwr3⟩
      have HRU3 := Lib.hid (hwr3.rowB HRU.out)
      have HL2 := Lib.hid (lsh_r gu 0 cu gx 0 nu cu cx s us w3 HRU3.out (by omega) (by omega) HF.out.1.symm (by omega) HF.out.2.2.2.2.2 (by omega) (HXA.out.keep hwr3 (.inl hgxv)) (OkL.apart hgxu) HX.out.2)
      have H3 := Lib.hid (And.intro hrl1 (And.intro hrW1 (And.intro hval1 (And.intro hwa3 hwr3))))
      clear hrl1 hrW1 hval1 hwa3 hwr3 HL1
      go_wp2_with fail
      refine HL2.out.mono ?_
      rintro e w4 ⟨c2, ru, rfl, hrl2, hrW2, hval2, hwa4, hwr4⟩
      have hru4 := hwr4.rowB HRU3.out
      obtain ⟨uu, huu⟩ := hru4.some (i := nu) (by omega)
      have hfz := hru4.free nu
      have hgl4 := hru4.lt
      have HRU4 := Lib.hid hru4
      have H4 := Lib.hid (And.intro hrl2 (And.intro hrW2 (And.intro hval2 (And.intro hwa4 hwr4))))
      clear hrl2 hrW2 hval2 hwa4 hwr4 hru4 HL2
      go_wp2
      go_meet
      obtain ⟨hrl1, hrW1, hval1, hwa3, hwr3⟩ := H3.out
      obtain ⟨hrl2, hrW2, hval2, hwa4, hwr4⟩ := H4.out
      have hset : Wr gu nu 1 w4 (w4.setCell ⟨gu, nu, none⟩ (.int .u64 (c2 : Int))) := (Wr.refl gu nu 1 w4).set (Nat.le_refl _) (Nat.lt_succ_self _) _
      have hv5 : WA (w4.setCell ⟨gu, nu, none⟩ (.int .u64 (c2 : Int))) gv ov rv := (hwa3.keep hwr4 (.inl hgvu)).keep hset (.inl hgvu)
      have hu5 : WA (w4.setCell ⟨gu, nu, none⟩ (.int .u64 (c2 : Int))) gu 0 (ru ++ [c2]) := by
        have h := hwa4.put (i := nu) (x := c2) hrl2 HRU4.out (by omega)
        rw [Nat.zero_add] at h
        exact h
      obtain ⟨t, v1, v2, hSC⟩ := scaled_of (s := s) (c := c2) hn HF.out.2.1.symm HY.out.2 HF.out.2.2.1 HF.out.2.2.2.1 HF.out.2.2.2.2.1 HF.out.2.2.2.2.2 HF.out.1.symm HX.out.2 c1 hrl1 hrW1 hval1 hrl2 hrW2 hval2 hv5 hu5
      exact ⟨_, rv, ru ++ [c2], t, v1, v2, rfl, hSC, hset.rowB (hwr4.rowB (hwr3.rowB HRV.out)), hset.rowB HRU4.out, ((HSK.out.wr hwr3 HRV.out).wr hwr4 HRU3.out).wr hset HRU4.out, ((HB2.out.trans (hwr3.below hgvB (by omega))).trans (hwr4.below hguB (by have := hwr3.size; omega))).trans (hset.below hguB (by have := hwr3.size; have := hwr4.size; omega)), Nat.le_trans hwr3.size (Nat.le_trans hwr4.size hset.size)⟩
  case rest =>
    obtain ⟨wz, vs', us', t, v1, v2, rfl, hS, hW⟩ := hcut
    clear HRV HRU HSK HB2 HXA HYA
    go_wp2_with fail
    refine (alias_nil _ (some ⟨gu, 0, none⟩) nn cu rfl _).mono ?_
    rintro e w' ⟨rfl, k, rfl⟩
    obtain ⟨w4, hw4⟩ : ∃ w4, w4 = wz.drewN k := ⟨_, rfl⟩
    have hh4 : w4.heap = wz.heap := by rw [hw4]; rfl
    have hS4 : Hid (Scaled gv ov n gu nu s vs us vs' us' t v1 v2 w4) := by
      obtain ⟨a1, a2, a3, a4, a5, a6, a7, a8, a9, a10, a11, a12, a13⟩ := hS.out
      exact ⟨a1, a2, a3, a4, a5, a6, a7, a8, a9, a10, a11, a12.hp hh4, a13.hp hh4⟩
    have hW4 : Hid (RowB w4 gv cv ∧ RowB w4 gu cu ∧ StkS w4 st l' D' ∧ Below B w w4 ∧ w2.heap.size ≤ w4.heap.size) := by
      obtain ⟨a1, a2, a3, a4, a5⟩ := hW.out
      exact ⟨a1.hp hh4, a2.hp hh4, by rw [hw4]; exact a3, by rw [hw4]; exact below_dn a4 _, by rw [hh4]; exact a5⟩
    have HM2 := Lib.hid (nat_make m1 (by have := HE.out.2.2.2; omega) w4)
    rw [← hw4]
    clear hw4 hh4 hS hW
    go_wp2_with fail
    refine HM2.out.mono ?_
    rintro e w5 ⟨⟨v, rfl, how⟩, hb5⟩
    rcases how.form with ⟨_, h⟩ | ⟨gq, cq, hv, hgq, hgql, hcq, hcqm⟩
    · exfalso; have h3 := congrArg List.length h; have h4 := HE.out.2.2.2; rw [List.length_replicate, List.length_nil] at h3; omega
    rw [List.length_replicate] at hv hcq
    subst hv
    obtain ⟨a1, a2, a3, a4, a5⟩ := hW4.out
    have hb5w : Below B w w5 := a4.trans (hb5.mono (by omega))
    have ct := HT.out.below hb5w hTB
    unfold Thr at ct
    have hru5 := rowB_below a2 hb5 a2.lt
    have hsk5 : StkS w5 st l' D' := a3.bel hb5 a3.lt.1 a3.lt.2
    have hD5 : ∀ si gr c, D' = some (si, gr, c) → B ≤ si ∧ B ≤ gr ∧ si ≠ gu ∧ si ≠ gq ∧ si ≠ gv ∧ gr ≠ gu ∧ gr ≠ gq ∧ (gr = gv → ov + n ≤ l') := fun si gr c h => by
      obtain ⟨b1, b2, b3, b4⟩ := Q.out.2.2.2.2.1 si gr c h
      obtain ⟨b5, b6⟩ := Q.out.2.2.2.1.lt.2 si gr c h
      exact ⟨by omega, by omega, by omega, by omega, b3, by omega, by omega, b4⟩
    have hm1n : m1 + n = nn := by have := HE.out; omega
    have HDB := Lib.hid (div_basic B gq cq gu cu gv ov cvx st l' m1 n v1 v2 t D' us' vs' (List.replicate m1 0) w5 hsk5 (by have := Q.out.2.2.2.2.2.2.2; have := Q.out.2.2.2.2.2.2; omega) how.rowB how.wa (by simp) how.2 hru5 (wa_below hS4.out.wu hb5 a2.lt) (by rw [hS4.out.ul]; have := HE.out; omega) hS4.out.uW (wa_below hS4.out.wv hb5 a1.lt) hS4.out.vl hS4.out.vW hn (by omega) (by have := HE.out; omega) (by have := HE.out; omega) hcq (by omega) hS4.out.e1 hS4.out.e2 hS4.out.vt (by rw [show m1 + n - 1 = nu by have := HE.out; omega]; exact hS4.out.ut) hS4.out.tv (by omega) hgvu (by omega) (by have := HST.out.lt.1; omega) (by have := HST.out.lt.1; omega) (Ne.symm Q.out.2.2.2.2.2.2.1) hD5 hBs hguB (by omega) (by have := hb5.size; omega))
    rw [hm1n] at HDB
    have HQC := Lib.hid (And.intro hcq hcqm)
    have HB5 := Lib.hid hb5w
    have hguq : gu < gq := by omega
    have hgqB : B ≤ gq := by omega
    clear a1 a2 a3 a4 a5 hb5w hru5 hsk5 hD5 how hcq hcqm HM2 hW4 hb5
    go_wp2_with fail
    refine HDB.out.mono ?_
    rintro e w6 ⟨rfl, hb6, ⟨D6, hsk6, hD6⟩, hru6, hrq6, rs, qs, hrl, hrW, hrv, hwu6, hql, hqW, hwq6⟩
    have how6 : OW w6 gq (.slice (some ⟨gq, 0, none⟩) m1 cq) qs := ow_row hrq6 hwq6 hql.symm HQC.out.1 HQC.out.2 (Nat.le_refl _) hqW
    have HNQ := Lib.hid (nat_norm gq _ qs (by have := HE.out; omega) w6 how6)
    have hm1l : m1 ≤ 1000 := by have := HE.out; omega
    have H6 := Lib.hid (And.intro hsk6 (And.intro hD6 (And.intro hru6 (And.intro hrl (And.intro hrW (And.intro hrv (And.intro hwu6 (And.intro hqW (And.intro hql (HB5.out.trans hb6))))))))))
    have HM1N := Lib.hid hm1n
    clear hb6 hsk6 hD6 hru6 hrq6 hrl hrW hrv hwu6 hql hqW hwq6 how6 HDB hm1n ct
    go_wp2_with fail
    refine HNQ.out.mono ?_
    rintro e w7 ⟨vq, lq, rfl, howq, hvq, htq, rfl⟩
    have hlq : lq.length ≤ 1000 := Nat.le_trans (topNZ_lenb htq (Nat.le_of_eq hvq) H6.out.2.2.2.2.2.2.2.1) (by rw [H6.out.2.2.2.2.2.2.2.2.1]; exact hm1l)
    have HOQ := Lib.hid (And.intro howq hlq)
    clear howq hvq htq hlq HNQ
    have hnnl : nn ≤ 1000 := by have := HE.out; omega
    by_cases hs0 : s = 0
    · subst hs0
      rw [show ((0 : Nat) : Int) = 0 from rfl]
      have how8 : OW w6 B (.slice (some ⟨gu, 0, none⟩) nn cu) rs := ow_row H6.out.2.2.1 H6.out.2.2.2.2.2.2.1 (by rw [H6.out.2.2.2.1]; exact HM1N.out.symm) HCU.out.1 HCU.out.2 hguB H6.out.2.2.2.2.1
      have HNU := Lib.hid (nat_norm B _ rs (by rw [H6.out.2.2.2.1, HM1N.out]; omega) w6 how8)
      have hval : valW rs = R := by
        rw [H6.out.2.2.2.2.2.1, HR.out, hS4.out.uv, hS4.out.vv, Nat.mul_mod_mul_right, Nat.pow_zero, Nat.mul_one]
      have HVAL := Lib.hid hval
      have HSR := Lib.hid (fun u => stk_restore st 0 l' D6 u w6 H6.out.1 (Nat.zero_le _))
      clear how8 hval
      go_wp2_with fail
      refine HNU.out.mono ?_
      rintro e w8 ⟨vr, lr, rfl, howr, hvr, htr, rfl⟩
      have hlr : lr.length ≤ 1000 := Nat.le_trans (topNZ_lenb htr (Nat.le_of_eq hvr) H6.out.2.2.2.2.1) (by rw [H6.out.2.2.2.1, HM1N.out]; exact hnnl)
      have FIN : Hid (∀ w', Back st 0 D6 w6 w' → DivLPost B R st w (.returned (.tuple #[vq, vr])) w') := fun w' hB => ⟨vq, vr, lq, lr, 0, D6, rfl, (HOQ.out.1.base hgqB).back H6.out.1 hB, howr.back H6.out.1 hB, HOQ.out.2, hlr, htr, by rw [hvr]; exact HVAL.out, hB.1, H6.out.2.1, H6.out.2.2.2.2.2.2.2.2.2.trans (hB.2.to_below (by have := H6.out.2.2.2.2.2.2.2.2.2.size; omega) (fun k _ => by rintro ⟨gr, c0, e⟩; exact H6.out.2.1 _ _ _ e))⟩
      clear howr hvr htr hlr HNU
      go_wp2
      refine leaves_cons (f := 67) (args := #[.pointer (some ⟨st, 0, none⟩), .int .i64 0]) (by simp) (by simp [go_sem]) ?_
      refine (HSR.out _).mono ?_
      rintro e u' w' ⟨rfl, rfl, hB⟩
      have HFI := FIN.out w' hB
      simp [Leaves, settle, results, Tryz.results57]
      exact HFI
    · have hsd : ((s : Int) != 0) = true := by rw [bne_iff_ne]; omega
      have HSH := Lib.hid (rsh_r gu 0 cu gu 0 nn cu cu s rs w6 H6.out.2.2.1 (by omega) (by omega) (by rw [H6.out.2.2.2.1]; exact HM1N.out) (by omega) HF.out.2.2.2.2.2 (by omega) H6.out.2.2.2.2.2.2.1 (Ok.same _ _ _) H6.out.2.2.2.2.1)
      go_wp2_with fail
      refine HSH.out.mono ?_
      rintro e w7 ⟨c7, r7, rfl, hr7l, hr7W, hr7v, hwa7, hwr7⟩
      have how8 : OW w7 B (.slice (some ⟨gu, 0, none⟩) nn cu) r7 := ow_row (hwr7.rowB H6.out.2.2.1) hwa7 hr7l.symm HCU.out.1 HCU.out.2 hguB hr7W
      have HNU := Lib.hid (nat_norm B _ r7 (by rw [hr7l]; omega) w7 how8)
      have hval : valW r7 = R := by
        rw [hr7v, H6.out.2.2.2.2.2.1, HR.out, hS4.out.uv, hS4.out.vv, Nat.mul_mod_mul_right, Nat.mul_div_cancel _ (two_pos s)]
      have HVAL := Lib.hid hval
      have hoq7 : OW w7 B vq lq := by
        rcases HOQ.out.1.form with ⟨h1, h2⟩ | ⟨g9, c9, h1, h2, h3, h4, h5⟩
        · rw [h1, h2]; exact ow_nil _ _
        · subst h1
          exact ow_row (hwr7.rowB HOQ.out.1.rowB) (HOQ.out.1.wa.keep hwr7 (.inl (by omega))) rfl h4 h5 (by omega) HOQ.out.1.2
      have hsk7 : StkS w7 st l' D6 := H6.out.1.wr hwr7 H6.out.2.2.1
      have HSR := Lib.hid (fun u => stk_restore st 0 l' D6 u w7 hsk7 (Nat.zero_le _))
      have hb7 : Below B w w7 := H6.out.2.2.2.2.2.2.2.2.2.trans (hwr7.below hguB (by have := H6.out.2.2.2.2.2.2.2.2.2.size; omega))
      have H7 := Lib.hid (And.intro hoq7 (And.intro hsk7 (And.intro hb7 (And.intro hr7l hr7W))))
      clear how8 hval hr7l hr7W hr7v hwa7 hwr7 hoq7 hsk7 hb7 HSH
      go_wp2_with fail
      refine HNU.out.mono ?_
      rintro e w8 ⟨vr, lr, rfl, howr, hvr, htr, rfl⟩
      have hlr : lr.length ≤ 1000 := Nat.le_trans (topNZ_lenb htr (Nat.le_of_eq hvr) H7.out.2.2.2.2) (by rw [H7.out.2.2.2.1]; exact hnnl)
      have FIN : Hid (∀ w', Back st 0 D6 w7 w' → DivLPost B R st w (.returned (.tuple #[vq, vr])) w') := fun w' hB => ⟨vq, vr, lq, lr, 0, D6, rfl, H7.out.1.back H7.out.2.1 hB, howr.back H7.out.2.1 hB, HOQ.out.2, hlr, htr, by rw [hvr]; exact HVAL.out, hB.1, H6.out.2.1, H7.out.2.2.1.trans (hB.2.to_below (by have := H7.out.2.2.1.size; omega) (fun k _ => by rintro ⟨gr, c0, e⟩; exact H6.out.2.1 _ _ _ e))⟩
      clear howr hvr htr hlr HNU
      go_wp2
      refine leaves_cons (f := 67) (args := #[.pointer (some ⟨st, 0, none⟩), .int .i64 0]) (by simp) (by simp [go_sem]) ?_
      refine (HSR.out _).mono ?_
      rintro e u' w' ⟨rfl, rfl, hB⟩
      have HFI := FIN.out w' hB
      simp [Leaves, settle, results, Tryz.results57]
      exact HFI
end Go.Proofs.YtndeolcamgnmdaaGreatDoor
