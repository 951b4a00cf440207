/- The reference's division to the floor, of signs apart: what is left. (Written by tools/flr_gen.py.) -/
import Derived.Test.YtndeolcamgnmdaaGreatDoorFloorS
set_option linter.unusedVariables false
set_option linter.unusedSimpArgs false
set_option linter.unnecessarySimpa false
namespace Go.Proofs.YtndeolcamgnmdaaGreatDoor
open Go.RowKit
attribute [local go_sem ↓] Go.wp_at_zero Go.wp_at_succ
theorem sum_len {sl ql : List Nat} (h : sl.head? ≠ some 0) (hn : natOf sl = natOf ql + natOf [1]) (hq : ∀ x ∈ ql, x < 256) (hk : ql.length ≤ 1000) : sl.length ≤ 2000 := by
  have h1 := natOf_lt ql hq
  have h2 := natOf_lenle h (ql.length + 1) (by rw [hn, Nat.pow_succ]; have h3 : natOf [1] = 1 := rfl; omega)
  omega
theorem box4_cc1 {w W : World} {t : TypeId} {a b c d : Value} (h : Below (w.heap.size + 1 + 1 + 1 + 1) (box4 w t a b c d) W) (u u' : Value) : ((W.setCell ⟨w.heap.size + 1 + 1, 0, none⟩ u).setCell ⟨w.heap.size + 1 + 1, 1, none⟩ u').cell? ⟨w.heap.size + 1, 0, none⟩ = some c ∧ ((W.setCell ⟨w.heap.size + 1 + 1, 0, none⟩ u).setCell ⟨w.heap.size + 1 + 1, 1, none⟩ u').cell? ⟨w.heap.size + 1, 1, none⟩ = some d := by
  obtain ⟨_, h2, _⟩ := box4_at h
  have h3 := blk2 ((h2.far (p := ⟨w.heap.size + 1 + 1, 0, none⟩) (by simp) u).far (p := ⟨w.heap.size + 1 + 1, 1, none⟩) (by simp) u')
  exact ⟨h3.1, h3.2.1⟩
theorem box4_cc2 {w W : World} {t : TypeId} {a b c d : Value} (h : Below (w.heap.size + 1 + 1 + 1 + 1) (box4 w t a b c d) W) (u u' u2 u3 : Value) : ((((W.setCell ⟨w.heap.size + 1 + 1, 0, none⟩ u).setCell ⟨w.heap.size + 1 + 1, 1, none⟩ u').setCell ⟨w.heap.size + 1 + 1 + 1, 0, none⟩ u2).setCell ⟨w.heap.size + 1 + 1 + 1, 1, none⟩ u3).cell? ⟨w.heap.size + 1, 0, none⟩ = some c ∧ ((((W.setCell ⟨w.heap.size + 1 + 1, 0, none⟩ u).setCell ⟨w.heap.size + 1 + 1, 1, none⟩ u').setCell ⟨w.heap.size + 1 + 1 + 1, 0, none⟩ u2).setCell ⟨w.heap.size + 1 + 1 + 1, 1, none⟩ u3).cell? ⟨w.heap.size + 1, 1, none⟩ = some d := by
  obtain ⟨_, h2, _⟩ := box4_at h
  have h3 := blk2 ((((h2.far (p := ⟨w.heap.size + 1 + 1, 0, none⟩) (by simp) u).far (p := ⟨w.heap.size + 1 + 1, 1, none⟩) (by simp) u').far (p := ⟨w.heap.size + 1 + 1 + 1, 0, none⟩) (by simp) u2).far (p := ⟨w.heap.size + 1 + 1 + 1, 1, none⟩) (by simp) u3)
  exact ⟨h3.1, h3.2.1⟩
theorem ob_one1 (w : World) : OB (w.alloc (.cells #[.int .u8 1] 5)) w.heap.size (.slice (some ⟨w.heap.size, 0, none⟩) 1 1) [1] := ob_one w 1 (by omega)
set_option maxRecDepth 100000 in
set_option maxHeartbeats 4000000 in
theorem floor_zero_false (B1 B2 : Nat) (v1 v2 : Value) (l1 l2 : List Nat) (w : World) (hv1 : SInt w B1 v1 true l1) (hv2 : SInt w B2 v2 false l2) (hl1 : l1.length ≤ 1000) (hl2 : l2.length ≤ 1000) (h0 : 0 < natOf l2) (hz : natOf l1 % natOf l2 = 0) :
    Calls Tryz.prog 8 #[v1, v2] w (FlrPost (0) w) := by
  obtain ⟨g1, c1, rfl⟩ := hv1.lit2
  obtain ⟨g2, c2, rfl⟩ := hv2.lit2
  obtain ⟨m1, hm1⟩ : ∃ m, m = l1.length := ⟨_, rfl⟩
  obtain ⟨m2, hm2⟩ : ∃ m, m = l2.length := ⟨_, rfl⟩
  obtain ⟨_, e1, ho1, _, _⟩ := hv1
  obtain ⟨_, e2, ho2, hh2, _⟩ := hv2
  simp only [Value.agg.injEq, Array.mk.injEq, List.cons.injEq, and_true, true_and] at e1 e2
  subst e1 e2
  rw [← hm1] at ho1 ⊢
  rw [← hm2] at ho2 ⊢
  have C0 := Lib.hid (Below.refl (w.heap.size + 1 + 1 + 1 + 1) (box4 w 24 (.bool true) (.slice (some ⟨g1, 0, none⟩) m1 c1) (.bool false) (.slice (some ⟨g2, 0, none⟩) m2 c2)))
  have HSP := Lib.hid (spec_split B1 B2 g1 c1 g2 c2 m1 m2 l1 l2 _ (ho1.below (box4_at C0.out).2.2.2.2.2) (ho2.below (box4_at C0.out).2.2.2.2.2) (by omega) (by omega) hh2 h0)
  have hA : natOf l1 < 256 ^ m1 := by rw [hm1]; exact natOf_lt l1 ho1.2.2
  have hBl : natOf l2 < 256 ^ m2 := by rw [hm2]; exact natOf_lt l2 ho2.2.2
  have HAB := Lib.hid (And.intro hA (And.intro hBl h0))
  have hm1b : m1 ≤ 1000 := by omega
  have hm2b : m2 ≤ 1000 := by omega
  clear ho1 ho2 hh2 h0 hm1 hm2 hl1 hl2 hA hBl
  unfold box4 at HSP
  go_enter Tryz.func8, Tryz.ntmps8
  go_wp2_with fail
  refine HSP.out.mono ?_
  rintro e w2 ⟨qv, rv, ql, rl, rfl, hq, hr, hqh, hrh, hqn, hrn, hb2⟩
  have C1 := Lib.hid (C0.out.trans (hb2.mono (by simp)))
  have HS4 := Lib.hid ((box4_at C1.out).2.2.2.2.1)
  obtain ⟨a0, a1, _, _⟩ := blk2 (box4_at C1.out).1
  obtain ⟨b0, b1, _, _⟩ := blk2 (box4_at C1.out).2.1
  have hqlen : ql.length ≤ m1 := head_nat hqh (by rw [hqn]; exact Nat.lt_of_le_of_lt (Nat.div_le_self _ _) HAB.out.1)
  have hrlen : rl.length ≤ m2 := head_nat hrh (by rw [hrn]; exact Nat.lt_trans (Nat.mod_lt _ HAB.out.2.2) HAB.out.2.1)
  obtain ⟨gq, cq, hqv, _, _, _, _⟩ := hq.form
  obtain ⟨gr, cr, hrv, _, _, _, _⟩ := hr.form
  obtain ⟨nq, hnq⟩ : ∃ n, n = ql.length := ⟨_, rfl⟩
  obtain ⟨nr, hnr⟩ : ∃ n, n = rl.length := ⟨_, rfl⟩
  rw [← hnq] at hqv
  rw [← hnr] at hrv
  subst hqv hrv
  have OFQ : Hid (∀ W, Below w2.heap.size w2 W → Calls Tryz.prog 11 #[.bool true, .slice (some ⟨gq, 0, none⟩) nq cq] W (OfPost true ql W)) := fun W h => of_any true _ _ _ ql W ((hq.below h).bsl) (by omega)
  have hrz : nr = 0 := by
    have h1 : natOf rl = 0 := by rw [hrn]; exact hz
    have h2 := natOf_lenle hrh 0 (by rw [h1]; simp)
    omega
  subst hrz
  clear hq hr hqh hrh hqn hrn hb2 hnq hnr hqlen hrlen hz
  go_wp2_with fail
  refine (OFQ.out _ (Below.refl _ _)).mono ?_
  rintro e w3 ⟨vq, rfl, hsq, hbq⟩
  obtain ⟨gq2, cq2, hvq⟩ := hsq.lit2
  obtain ⟨rq, hrq⟩ : ∃ r, r = (strip ql).length := ⟨_, rfl⟩
  obtain ⟨nb, hnb⟩ : ∃ b, b = negOf true ql := ⟨_, rfl⟩
  rw [← hrq, ← hnb] at hvq
  subst hvq
  have C3 := Lib.hid (C1.out.trans (hbq.mono HS4.out))
  obtain ⟨k0, k1, f0, f1⟩ := blk2 (box4_at C3.out).2.2.1
  obtain ⟨j0, j1, p0, p1⟩ := blk2 (box4_at C3.out).2.2.2.1
  clear hsq hbq hrq hnb
  go_wp2
  refine bodyPost_ret (v := .tuple #[.agg #[.bool nb, .slice (some ⟨gq2, 0, none⟩) rq cq2], .agg #[.bool false, .slice none 0 0]]) (by simp [results, Tryz.results8, go_sem, k0, k1, j0, j1]) rfl ?_
  exact floor_fin2 (.inr ⟨rfl, rfl⟩) (box4_at C3.out).2.2.2.2.2
set_option maxRecDepth 100000 in
set_option maxHeartbeats 4000000 in
theorem floor_left_false (B1 B2 : Nat) (v1 v2 : Value) (l1 l2 : List Nat) (w : World) (hv1 : SInt w B1 v1 true l1) (hv2 : SInt w B2 v2 false l2) (hl1 : l1.length ≤ 1000) (hl2 : l2.length ≤ 1000) (h0 : 0 < natOf l2) (hz : natOf l1 % natOf l2 ≠ 0) :
    Calls Tryz.prog 8 #[v1, v2] w (FlrPost (flr true false (natOf l1) (natOf l2)) w) := by
  obtain ⟨g1, c1, rfl⟩ := hv1.lit2
  obtain ⟨g2, c2, rfl⟩ := hv2.lit2
  obtain ⟨m1, hm1⟩ : ∃ m, m = l1.length := ⟨_, rfl⟩
  obtain ⟨m2, hm2⟩ : ∃ m, m = l2.length := ⟨_, rfl⟩
  obtain ⟨_, e1, ho1, _, _⟩ := hv1
  obtain ⟨_, e2, ho2, hh2, _⟩ := hv2
  simp only [Value.agg.injEq, Array.mk.injEq, List.cons.injEq, and_true, true_and] at e1 e2
  subst e1 e2
  rw [← hm1] at ho1 ⊢
  rw [← hm2] at ho2 ⊢
  have C0 := Lib.hid (Below.refl (w.heap.size + 1 + 1 + 1 + 1) (box4 w 24 (.bool true) (.slice (some ⟨g1, 0, none⟩) m1 c1) (.bool false) (.slice (some ⟨g2, 0, none⟩) m2 c2)))
  have HSP := Lib.hid (spec_split B1 B2 g1 c1 g2 c2 m1 m2 l1 l2 _ (ho1.below (box4_at C0.out).2.2.2.2.2) (ho2.below (box4_at C0.out).2.2.2.2.2) (by omega) (by omega) hh2 h0)
  have hA : natOf l1 < 256 ^ m1 := by rw [hm1]; exact natOf_lt l1 ho1.2.2
  have hBl : natOf l2 < 256 ^ m2 := by rw [hm2]; exact natOf_lt l2 ho2.2.2
  have HAB := Lib.hid (And.intro hA (And.intro hBl h0))
  have hm1b : m1 ≤ 1000 := by omega
  have hm2b : m2 ≤ 1000 := by omega
  have HO2 := Lib.hid ho2
  have HLLN : ∀ ll : List Nat, (natOf ll = natOf l2 - natOf l1 % natOf l2 ∧ ll.head? ≠ some 0) → ll.length ≤ 1000 := fun ll h => Nat.le_trans (natOf_lenle h.2 m2 (by rw [h.1]; omega)) (by omega)
  clear ho1 ho2 hh2 h0 hm1 hm2 hl1 hl2 hA hBl
  unfold box4 at HSP
  go_enter Tryz.func8, Tryz.ntmps8
  go_wp2_with fail
  refine HSP.out.mono ?_
  rintro e w2 ⟨qv, rv, ql, rl, rfl, hq, hr, hqh, hrh, hqn, hrn, hb2⟩
  have C1 := Lib.hid (C0.out.trans (hb2.mono (by simp)))
  have HS4 := Lib.hid ((box4_at C1.out).2.2.2.2.1)
  obtain ⟨a0, a1, _, _⟩ := blk2 (box4_at C1.out).1
  obtain ⟨b0, b1, _, _⟩ := blk2 (box4_at C1.out).2.1
  have hqlen : ql.length ≤ m1 := head_nat hqh (by rw [hqn]; exact Nat.lt_of_le_of_lt (Nat.div_le_self _ _) HAB.out.1)
  have hrlen : rl.length ≤ m2 := head_nat hrh (by rw [hrn]; exact Nat.lt_trans (Nat.mod_lt _ HAB.out.2.2) HAB.out.2.1)
  obtain ⟨gq, cq, hqv, _, _, _, _⟩ := hq.form
  obtain ⟨gr, cr, hrv, _, _, _, _⟩ := hr.form
  obtain ⟨nq, hnq⟩ : ∃ n, n = ql.length := ⟨_, rfl⟩
  obtain ⟨nr, hnr⟩ : ∃ n, n = rl.length := ⟨_, rfl⟩
  rw [← hnq] at hqv
  rw [← hnr] at hrv
  subst hqv hrv
  have hrz : ((nr : Int) == 0) = false := by
    rw [beq_eq_false_iff_ne]
    intro h
    have h1 : nr = 0 := by omega
    rw [hnr] at h1
    have h2 := List.eq_nil_of_length_eq_zero h1
    rw [h2] at hrn
    exact hz hrn.symm
  have HQ := Lib.hid hq
  have HR := Lib.hid hr
  have HN := Lib.hid (And.intro hqn (And.intro hrn (And.intro hqh hrh)))
  have HLN := Lib.hid (And.intro hqlen (And.intro hrlen (And.intro hnq hnr)))
  have C2 := Lib.hid (C1.out.drew)
  have S2 : Hid (Below w2.heap.size w2 ((w2.alloc (.cells #[.int .u8 1] 5)).drew)) := ((Below.refl w2.heap.size w2).alloc (Nat.le_refl _) _).drew
  have C2a := Lib.hid ((C1.out.alloc HS4.out (.cells #[.int .u8 1] 5)).drew)
  have HSUM := Lib.hid (spec_sum _ _ gq cq w2.heap.size 1 nq 1 ql [1] ((w2.alloc (.cells #[.int .u8 1] 5)).drew) (hq.below S2.out) ((ob_one1 w2).below ((Below.refl _ _).drew)) (by omega) (by omega))
  have HZ := Lib.hid hz
  clear hq hr hqh hrh hqn hrn hb2 hnq hnr hqlen hrlen hz
  go_wp2_with fail
  go_region_held3 (fun W => W.cell? ⟨w.heap.size + 1, 0, none⟩ = some (.bool false) ∧ W.cell? ⟨w.heap.size + 1, 1, none⟩ = some (.slice (some ⟨g2, 0, none⟩) m2 c2))
    (first | (with_reducible exact box4_cc1 C6.out _ _) | (with_reducible exact box4_cc2 C6.out _ _ _ _) | (with_reducible exact box4_cc C6.out) | (with_reducible exact box4_cc C5.out) | (with_reducible exact box4_cc C4.out) | (with_reducible exact box4_cc C3.out) | (with_reducible exact box4_cc C2a.out) | (with_reducible exact box4_cc C2.out) | (with_reducible exact box4_cc C1.out) | go_keep)
    (first
    | (go_at_call 14; (with_reducible refine HSUM.out.mono ?_); rintro e wS ⟨vs1, sl, rfl, hso, hsh, hsn, hbs⟩; have C3 := Lib.hid (C2a.out.trans (hbs.mono (Nat.le_trans HS4.out S2.out.size))); have S3 := Lib.hid (S2.out.trans (hbs.mono S2.out.size)); have ZS := Lib.hid (Nat.le_trans HS4.out S3.out.size); obtain ⟨gs, cs, hsv, _, _, _, _⟩ := hso.form; obtain ⟨ns, hns⟩ : ∃ n, n = sl.length := ⟨_, rfl⟩; rw [← hns] at hsv; subst hsv; have HSO := Lib.hid hso; have HSLN := Lib.hid (sum_len hsh hsn HQ.out.2.2 (Nat.le_trans HLN.out.1 hm1b)); clear hso hsh hsn hbs hns)
    | (go_at_call 15; (with_reducible refine (spec_less B2 _ g2 c2 gr cr m2 nr l2 rl _ (HO2.out.below (box4_at C4.out).2.2.2.2.2) (HR.out.below S4.out) (by omega) (by have := HLN.out; omega) (by rw [HN.out.2.1]; exact Nat.le_of_lt (Nat.mod_lt _ HAB.out.2.2))).mono ?_); rintro e wL ⟨vs2, ll, rfl, hlo, hlh, hln, hbl⟩; have C5 := Lib.hid (C4.out.trans (hbl.mono ZO.out)); have S5 := Lib.hid (S4.out.trans (hbl.mono S4.out.size)); have ZL := Lib.hid (Nat.le_trans HS4.out S5.out.size); obtain ⟨gl, cl, hlv, _, _, _, _⟩ := hlo.form; obtain ⟨nl, hnl⟩ : ∃ n, n = ll.length := ⟨_, rfl⟩; rw [← hnl] at hlv; subst hlv; have HLO := Lib.hid hlo; have HLL := Lib.hid (And.intro (show natOf ll = natOf l2 - natOf l1 % natOf l2 by rw [hln, HN.out.2.1]) hlh); clear hlo hlh hln hbl hnl)
    | (go_at_call 11; (with_reducible refine (of_any false _ _ _ ll _ HLO.out.bsl (by have := HLLN ll HLL.out; omega)).mono ?_); rintro e wF ⟨vq2, rfl, hsq2, hbq2⟩; have C6 := Lib.hid (C5.out.trans (hbq2.mono ZL.out)); obtain ⟨gr2, cr2, hvq2⟩ := hsq2.lit2; obtain ⟨rr, hrr⟩ : ∃ r, r = (strip ll).length := ⟨_, rfl⟩; rw [← hrr] at hvq2; have SR := Lib.hid (hsq2.base ZL.out); rw [hvq2] at SR; have SR2 := Lib.hid (Or.inl ⟨_, _, SR.out, rfl⟩ : SInt0 _ _ _ (intOf2 (negOf false ll) (strip ll))); obtain ⟨nb2, hnb2⟩ : ∃ b, b = negOf false ll := ⟨_, rfl⟩; rw [← hnb2] at hvq2 SR2; subst hvq2; have HNB := Lib.hid hnb2; obtain ⟨k0, k1, f0, f1⟩ := blk2 (box4_at C6.out).2.2.1; obtain ⟨j0, j1, p0, p1⟩ := blk2 (box4_at C6.out).2.2.2.1; clear hsq2 hbq2 hrr hnb2)
    | (go_at_call 11; (with_reducible refine (of_any true _ _ _ sl _ HSO.out.bsl (by have := HSLN.out; omega)).mono ?_); rintro e wO ⟨vq, rfl, hsq, hbq⟩; have C4 := Lib.hid (C3.out.trans (hbq.mono ZS.out)); have S4 := Lib.hid (S3.out.trans (hbq.mono S3.out.size)); have ZO := Lib.hid (Nat.le_trans HS4.out S4.out.size); obtain ⟨gq2, cq2, hvq⟩ := hsq.lit2; obtain ⟨rq, hrq⟩ : ∃ r, r = (strip sl).length := ⟨_, rfl⟩; obtain ⟨nb, hnb⟩ : ∃ b, b = negOf true sl := ⟨_, rfl⟩; rw [← hrq, ← hnb] at hvq; subst hvq; clear hsq hbq hrq hnb))
  all_goals
    go_wp2
    refine bodyPost_ret (v := .tuple #[.agg #[.bool nb, .slice (some ⟨gq2, 0, none⟩) rq cq2], .agg #[.bool nb2, .slice (some ⟨gr2, 0, none⟩) rr cr2]]) (by simp [results, Tryz.results8, go_sem, k0, k1, j0, j1]) rfl ?_
    have hval : flr true false (natOf l1) (natOf l2) = intOf2 (negOf false ll) (strip ll) := by
      rw [intOf2_of, HLL.out.1]
      exact flr_apart false _ _ HZ.out
    rw [hval, ← HNB.out]
    exact floor_fin2 SR2.out (box4_at C6.out).2.2.2.2.2
set_option maxRecDepth 100000 in
set_option maxHeartbeats 4000000 in
theorem floor_zero_true (B1 B2 : Nat) (v1 v2 : Value) (l1 l2 : List Nat) (w : World) (hv1 : SInt w B1 v1 false l1) (hv2 : SInt w B2 v2 true l2) (hl1 : l1.length ≤ 1000) (hl2 : l2.length ≤ 1000) (h0 : 0 < natOf l2) (hz : natOf l1 % natOf l2 = 0) :
    Calls Tryz.prog 8 #[v1, v2] w (FlrPost (0) w) := by
  obtain ⟨g1, c1, rfl⟩ := hv1.lit2
  obtain ⟨g2, c2, rfl⟩ := hv2.lit2
  obtain ⟨m1, hm1⟩ : ∃ m, m = l1.length := ⟨_, rfl⟩
  obtain ⟨m2, hm2⟩ : ∃ m, m = l2.length := ⟨_, rfl⟩
  obtain ⟨_, e1, ho1, _, _⟩ := hv1
  obtain ⟨_, e2, ho2, hh2, _⟩ := hv2
  simp only [Value.agg.injEq, Array.mk.injEq, List.cons.injEq, and_true, true_and] at e1 e2
  subst e1 e2
  rw [← hm1] at ho1 ⊢
  rw [← hm2] at ho2 ⊢
  have C0 := Lib.hid (Below.refl (w.heap.size + 1 + 1 + 1 + 1) (box4 w 24 (.bool false) (.slice (some ⟨g1, 0, none⟩) m1 c1) (.bool true) (.slice (some ⟨g2, 0, none⟩) m2 c2)))
  have HSP := Lib.hid (spec_split B1 B2 g1 c1 g2 c2 m1 m2 l1 l2 _ (ho1.below (box4_at C0.out).2.2.2.2.2) (ho2.below (box4_at C0.out).2.2.2.2.2) (by omega) (by omega) hh2 h0)
  have hA : natOf l1 < 256 ^ m1 := by rw [hm1]; exact natOf_lt l1 ho1.2.2
  have hBl : natOf l2 < 256 ^ m2 := by rw [hm2]; exact natOf_lt l2 ho2.2.2
  have HAB := Lib.hid (And.intro hA (And.intro hBl h0))
  have hm1b : m1 ≤ 1000 := by omega
  have hm2b : m2 ≤ 1000 := by omega
  clear ho1 ho2 hh2 h0 hm1 hm2 hl1 hl2 hA hBl
  unfold box4 at HSP
  go_enter Tryz.func8, Tryz.ntmps8
  go_wp2_with fail
  refine HSP.out.mono ?_
  rintro e w2 ⟨qv, rv, ql, rl, rfl, hq, hr, hqh, hrh, hqn, hrn, hb2⟩
  have C1 := Lib.hid (C0.out.trans (hb2.mono (by simp)))
  have HS4 := Lib.hid ((box4_at C1.out).2.2.2.2.1)
  obtain ⟨a0, a1, _, _⟩ := blk2 (box4_at C1.out).1
  obtain ⟨b0, b1, _, _⟩ := blk2 (box4_at C1.out).2.1
  have hqlen : ql.length ≤ m1 := head_nat hqh (by rw [hqn]; exact Nat.lt_of_le_of_lt (Nat.div_le_self _ _) HAB.out.1)
  have hrlen : rl.length ≤ m2 := head_nat hrh (by rw [hrn]; exact Nat.lt_trans (Nat.mod_lt _ HAB.out.2.2) HAB.out.2.1)
  obtain ⟨gq, cq, hqv, _, _, _, _⟩ := hq.form
  obtain ⟨gr, cr, hrv, _, _, _, _⟩ := hr.form
  obtain ⟨nq, hnq⟩ : ∃ n, n = ql.length := ⟨_, rfl⟩
  obtain ⟨nr, hnr⟩ : ∃ n, n = rl.length := ⟨_, rfl⟩
  rw [← hnq] at hqv
  rw [← hnr] at hrv
  subst hqv hrv
  have OFQ : Hid (∀ W, Below w2.heap.size w2 W → Calls Tryz.prog 11 #[.bool true, .slice (some ⟨gq, 0, none⟩) nq cq] W (OfPost true ql W)) := fun W h => of_any true _ _ _ ql W ((hq.below h).bsl) (by omega)
  have hrz : nr = 0 := by
    have h1 : natOf rl = 0 := by rw [hrn]; exact hz
    have h2 := natOf_lenle hrh 0 (by rw [h1]; simp)
    omega
  subst hrz
  clear hq hr hqh hrh hqn hrn hb2 hnq hnr hqlen hrlen hz
  go_wp2_with fail
  refine (OFQ.out _ (Below.refl _ _)).mono ?_
  rintro e w3 ⟨vq, rfl, hsq, hbq⟩
  obtain ⟨gq2, cq2, hvq⟩ := hsq.lit2
  obtain ⟨rq, hrq⟩ : ∃ r, r = (strip ql).length := ⟨_, rfl⟩
  obtain ⟨nb, hnb⟩ : ∃ b, b = negOf true ql := ⟨_, rfl⟩
  rw [← hrq, ← hnb] at hvq
  subst hvq
  have C3 := Lib.hid (C1.out.trans (hbq.mono HS4.out))
  obtain ⟨k0, k1, f0, f1⟩ := blk2 (box4_at C3.out).2.2.1
  obtain ⟨j0, j1, p0, p1⟩ := blk2 (box4_at C3.out).2.2.2.1
  clear hsq hbq hrq hnb
  go_wp2
  refine bodyPost_ret (v := .tuple #[.agg #[.bool nb, .slice (some ⟨gq2, 0, none⟩) rq cq2], .agg #[.bool false, .slice none 0 0]]) (by simp [results, Tryz.results8, go_sem, k0, k1, j0, j1]) rfl ?_
  exact floor_fin2 (.inr ⟨rfl, rfl⟩) (box4_at C3.out).2.2.2.2.2
set_option maxRecDepth 100000 in
set_option maxHeartbeats 4000000 in
theorem floor_left_true (B1 B2 : Nat) (v1 v2 : Value) (l1 l2 : List Nat) (w : World) (hv1 : SInt w B1 v1 false l1) (hv2 : SInt w B2 v2 true l2) (hl1 : l1.length ≤ 1000) (hl2 : l2.length ≤ 1000) (h0 : 0 < natOf l2) (hz : natOf l1 % natOf l2 ≠ 0) :
    Calls Tryz.prog 8 #[v1, v2] w (FlrPost (flr false true (natOf l1) (natOf l2)) w) := by
  obtain ⟨g1, c1, rfl⟩ := hv1.lit2
  obtain ⟨g2, c2, rfl⟩ := hv2.lit2
  obtain ⟨m1, hm1⟩ : ∃ m, m = l1.length := ⟨_, rfl⟩
  obtain ⟨m2, hm2⟩ : ∃ m, m = l2.length := ⟨_, rfl⟩
  obtain ⟨_, e1, ho1, _, _⟩ := hv1
  obtain ⟨_, e2, ho2, hh2, _⟩ := hv2
  simp only [Value.agg.injEq, Array.mk.injEq, List.cons.injEq, and_true, true_and] at e1 e2
  subst e1 e2
  rw [← hm1] at ho1 ⊢
  rw [← hm2] at ho2 ⊢
  have C0 := Lib.hid (Below.refl (w.heap.size + 1 + 1 + 1 + 1) (box4 w 24 (.bool false) (.slice (some ⟨g1, 0, none⟩) m1 c1) (.bool true) (.slice (some ⟨g2, 0, none⟩) m2 c2)))
  have HSP := Lib.hid (spec_split B1 B2 g1 c1 g2 c2 m1 m2 l1 l2 _ (ho1.below (box4_at C0.out).2.2.2.2.2) (ho2.below (box4_at C0.out).2.2.2.2.2) (by omega) (by omega) hh2 h0)
  have hA : natOf l1 < 256 ^ m1 := by rw [hm1]; exact natOf_lt l1 ho1.2.2
  have hBl : natOf l2 < 256 ^ m2 := by rw [hm2]; exact natOf_lt l2 ho2.2.2
  have HAB := Lib.hid (And.intro hA (And.intro hBl h0))
  have hm1b : m1 ≤ 1000 := by omega
  have hm2b : m2 ≤ 1000 := by omega
  have HO2 := Lib.hid ho2
  have HLLN : ∀ ll : List Nat, (natOf ll = natOf l2 - natOf l1 % natOf l2 ∧ ll.head? ≠ some 0) → ll.length ≤ 1000 := fun ll h => Nat.le_trans (natOf_lenle h.2 m2 (by rw [h.1]; omega)) (by omega)
  clear ho1 ho2 hh2 h0 hm1 hm2 hl1 hl2 hA hBl
  unfold box4 at HSP
  go_enter Tryz.func8, Tryz.ntmps8
  go_wp2_with fail
  refine HSP.out.mono ?_
  rintro e w2 ⟨qv, rv, ql, rl, rfl, hq, hr, hqh, hrh, hqn, hrn, hb2⟩
  have C1 := Lib.hid (C0.out.trans (hb2.mono (by simp)))
  have HS4 := Lib.hid ((box4_at C1.out).2.2.2.2.1)
  obtain ⟨a0, a1, _, _⟩ := blk2 (box4_at C1.out).1
  obtain ⟨b0, b1, _, _⟩ := blk2 (box4_at C1.out).2.1
  have hqlen : ql.length ≤ m1 := head_nat hqh (by rw [hqn]; exact Nat.lt_of_le_of_lt (Nat.div_le_self _ _) HAB.out.1)
  have hrlen : rl.length ≤ m2 := head_nat hrh (by rw [hrn]; exact Nat.lt_trans (Nat.mod_lt _ HAB.out.2.2) HAB.out.2.1)
  obtain ⟨gq, cq, hqv, _, _, _, _⟩ := hq.form
  obtain ⟨gr, cr, hrv, _, _, _, _⟩ := hr.form
  obtain ⟨nq, hnq⟩ : ∃ n, n = ql.length := ⟨_, rfl⟩
  obtain ⟨nr, hnr⟩ : ∃ n, n = rl.length := ⟨_, rfl⟩
  rw [← hnq] at hqv
  rw [← hnr] at hrv
  subst hqv hrv
  have hrz : ((nr : Int) == 0) = false := by
    rw [beq_eq_false_iff_ne]
    intro h
    have h1 : nr = 0 := by omega
    rw [hnr] at h1
    have h2 := List.eq_nil_of_length_eq_zero h1
    rw [h2] at hrn
    exact hz hrn.symm
  have HQ := Lib.hid hq
  have HR := Lib.hid hr
  have HN := Lib.hid (And.intro hqn (And.intro hrn (And.intro hqh hrh)))
  have HLN := Lib.hid (And.intro hqlen (And.intro hrlen (And.intro hnq hnr)))
  have C2 := Lib.hid (C1.out.drew)
  have S2 : Hid (Below w2.heap.size w2 ((w2.alloc (.cells #[.int .u8 1] 5)).drew)) := ((Below.refl w2.heap.size w2).alloc (Nat.le_refl _) _).drew
  have C2a := Lib.hid ((C1.out.alloc HS4.out (.cells #[.int .u8 1] 5)).drew)
  have HSUM := Lib.hid (spec_sum _ _ gq cq w2.heap.size 1 nq 1 ql [1] ((w2.alloc (.cells #[.int .u8 1] 5)).drew) (hq.below S2.out) ((ob_one1 w2).below ((Below.refl _ _).drew)) (by omega) (by omega))
  have HZ := Lib.hid hz
  clear hq hr hqh hrh hqn hrn hb2 hnq hnr hqlen hrlen hz
  go_wp2_with fail
  go_region_held3 (fun W => W.cell? ⟨w.heap.size + 1, 0, none⟩ = some (.bool true) ∧ W.cell? ⟨w.heap.size + 1, 1, none⟩ = some (.slice (some ⟨g2, 0, none⟩) m2 c2))
    (first | (with_reducible exact box4_cc1 C6.out _ _) | (with_reducible exact box4_cc2 C6.out _ _ _ _) | (with_reducible exact box4_cc C6.out) | (with_reducible exact box4_cc C5.out) | (with_reducible exact box4_cc C4.out) | (with_reducible exact box4_cc C3.out) | (with_reducible exact box4_cc C2a.out) | (with_reducible exact box4_cc C2.out) | (with_reducible exact box4_cc C1.out) | go_keep)
    (first
    | (go_at_call 14; (with_reducible refine HSUM.out.mono ?_); rintro e wS ⟨vs1, sl, rfl, hso, hsh, hsn, hbs⟩; have C3 := Lib.hid (C2a.out.trans (hbs.mono (Nat.le_trans HS4.out S2.out.size))); have S3 := Lib.hid (S2.out.trans (hbs.mono S2.out.size)); have ZS := Lib.hid (Nat.le_trans HS4.out S3.out.size); obtain ⟨gs, cs, hsv, _, _, _, _⟩ := hso.form; obtain ⟨ns, hns⟩ : ∃ n, n = sl.length := ⟨_, rfl⟩; rw [← hns] at hsv; subst hsv; have HSO := Lib.hid hso; have HSLN := Lib.hid (sum_len hsh hsn HQ.out.2.2 (Nat.le_trans HLN.out.1 hm1b)); clear hso hsh hsn hbs hns)
    | (go_at_call 15; (with_reducible refine (spec_less B2 _ g2 c2 gr cr m2 nr l2 rl _ (HO2.out.below (box4_at C4.out).2.2.2.2.2) (HR.out.below S4.out) (by omega) (by have := HLN.out; omega) (by rw [HN.out.2.1]; exact Nat.le_of_lt (Nat.mod_lt _ HAB.out.2.2))).mono ?_); rintro e wL ⟨vs2, ll, rfl, hlo, hlh, hln, hbl⟩; have C5 := Lib.hid (C4.out.trans (hbl.mono ZO.out)); have S5 := Lib.hid (S4.out.trans (hbl.mono S4.out.size)); have ZL := Lib.hid (Nat.le_trans HS4.out S5.out.size); obtain ⟨gl, cl, hlv, _, _, _, _⟩ := hlo.form; obtain ⟨nl, hnl⟩ : ∃ n, n = ll.length := ⟨_, rfl⟩; rw [← hnl] at hlv; subst hlv; have HLO := Lib.hid hlo; have HLL := Lib.hid (And.intro (show natOf ll = natOf l2 - natOf l1 % natOf l2 by rw [hln, HN.out.2.1]) hlh); clear hlo hlh hln hbl hnl)
    | (go_at_call 11; (with_reducible refine (of_any true _ _ _ ll _ HLO.out.bsl (by have := HLLN ll HLL.out; omega)).mono ?_); rintro e wF ⟨vq2, rfl, hsq2, hbq2⟩; have C6 := Lib.hid (C5.out.trans (hbq2.mono ZL.out)); obtain ⟨gr2, cr2, hvq2⟩ := hsq2.lit2; obtain ⟨rr, hrr⟩ : ∃ r, r = (strip ll).length := ⟨_, rfl⟩; rw [← hrr] at hvq2; have SR := Lib.hid (hsq2.base ZL.out); rw [hvq2] at SR; have SR2 := Lib.hid (Or.inl ⟨_, _, SR.out, rfl⟩ : SInt0 _ _ _ (intOf2 (negOf true ll) (strip ll))); obtain ⟨nb2, hnb2⟩ : ∃ b, b = negOf true ll := ⟨_, rfl⟩; rw [← hnb2] at hvq2 SR2; subst hvq2; have HNB := Lib.hid hnb2; obtain ⟨k0, k1, f0, f1⟩ := blk2 (box4_at C6.out).2.2.1; obtain ⟨j0, j1, p0, p1⟩ := blk2 (box4_at C6.out).2.2.2.1; clear hsq2 hbq2 hrr hnb2)
    | (go_at_call 11; (with_reducible refine (of_any true _ _ _ sl _ HSO.out.bsl (by have := HSLN.out; omega)).mono ?_); rintro e wO ⟨vq, rfl, hsq, hbq⟩; have C4 := Lib.hid (C3.out.trans (hbq.mono ZS.out)); have S4 := Lib.hid (S3.out.trans (hbq.mono S3.out.size)); have ZO := Lib.hid (Nat.le_trans HS4.out S4.out.size); obtain ⟨gq2, cq2, hvq⟩ := hsq.lit2; obtain ⟨rq, hrq⟩ : ∃ r, r = (strip sl).length := ⟨_, rfl⟩; obtain ⟨nb, hnb⟩ : ∃ b, b = negOf true sl := ⟨_, rfl⟩; rw [← hrq, ← hnb] at hvq; subst hvq; clear hsq hbq hrq hnb))
  all_goals
    go_wp2
    refine bodyPost_ret (v := .tuple #[.agg #[.bool nb, .slice (some ⟨gq2, 0, none⟩) rq cq2], .agg #[.bool nb2, .slice (some ⟨gr2, 0, none⟩) rr cr2]]) (by simp [results, Tryz.results8, go_sem, k0, k1, j0, j1]) rfl ?_
    have hval : flr false true (natOf l1) (natOf l2) = intOf2 (negOf true ll) (strip ll) := by
      rw [intOf2_of, HLL.out.1]
      exact flr_apart true _ _ HZ.out
    rw [hval, ← HNB.out]
    exact floor_fin2 SR2.out (box4_at C6.out).2.2.2.2.2
/-- The division to the floor. -/
theorem spec_floor (B1 B2 : Nat) (v1 v2 : Value) (n1 n2 : Bool) (l1 l2 : List Nat) (w : World) (hv1 : SInt w B1 v1 n1 l1) (hv2 : SInt w B2 v2 n2 l2) (hl1 : l1.length ≤ 1000) (hl2 : l2.length ≤ 1000) (h0 : 0 < natOf l2) :
    Calls Tryz.prog 8 #[v1, v2] w (FlrPost (flr n1 n2 (natOf l1) (natOf l2)) w) := by
  cases n1 with
  | false =>
    cases n2 with
    | false =>
      refine (spec_floor_pos B1 B2 v1 v2 l1 l2 w hv1 hv2 hl1 hl2 h0).mono fun e w' h => ?_
      obtain ⟨u1, u2, k1, k2, rfl, hu1, hu2, hn1, hn2, hb⟩ := h
      obtain ⟨g9, c9, rfl⟩ := hu1.lit2
      exact ⟨_, _, _, _, u2, rfl, .inl ⟨false, k2, hu2, by rw [flr_same]; simp [intOf2, hn2]⟩, hb⟩
    | true =>
      by_cases hz : natOf l1 % natOf l2 = 0
      · rw [show flr false true (natOf l1) (natOf l2) = 0 from flr_zero true _ _ hz]
        exact floor_zero_true B1 B2 v1 v2 l1 l2 w hv1 hv2 hl1 hl2 h0 hz
      · exact floor_left_true B1 B2 v1 v2 l1 l2 w hv1 hv2 hl1 hl2 h0 hz
  | true =>
    cases n2 with
    | false =>
      by_cases hz : natOf l1 % natOf l2 = 0
      · rw [show flr true false (natOf l1) (natOf l2) = 0 from flr_zero false _ _ hz]
        exact floor_zero_false B1 B2 v1 v2 l1 l2 w hv1 hv2 hl1 hl2 h0 hz
      · exact floor_left_false B1 B2 v1 v2 l1 l2 w hv1 hv2 hl1 hl2 h0 hz
    | true => exact floor_neg B1 B2 v1 v2 l1 l2 w hv1 hv2 hl1 hl2 h0
end Go.Proofs.YtndeolcamgnmdaaGreatDoor
