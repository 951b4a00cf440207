/- The reference's comparison of two integers. -/
import Derived.Test.YteibkaonofkcbaaGreatTupJoinI
import Derived.Test.YteibkaonofkcbaaGreatTupJoinC
set_option linter.unusedSimpArgs false
set_option linter.unusedVariables false
namespace Go.Proofs.YteibkaonofkcbaaGreat
open Go.RowKit
attribute [local go_sem ↓] Go.wp_at_zero Go.wp_at_succ
theorem box_pair {w W : World} {t : TypeId} {a b c d : Value} (h : Below (w.heap.size + 1 + 1) ((w.alloc (.cells #[a, b] t)).alloc (.cells #[c, d] t)) W) :
    Blk W w.heap.size t #[a, b] ∧ Blk W (w.heap.size + 1) t #[c, d] ∧ w.heap.size + 1 + 1 ≤ W.heap.size ∧ Below w.heap.size w W :=
  ⟨((Blk.new w t #[a, b]).alloc (.cells #[c, d] t)).below h (by omega), (Blk.new_at (w.alloc (.cells #[a, b] t)) t #[c, d] (n := w.heap.size + 1) (by simp)).below h (by omega), by have := h.size; simpa using this, (((Below.refl _ w).alloc (Nat.le_refl _) _).alloc (by simp) _).trans (h.mono (by omega))⟩
theorem box_cells {w W : World} {t : TypeId} {a b c d : Value} (h : Below (w.heap.size + 1 + 1) ((w.alloc (.cells #[a, b] t)).alloc (.cells #[c, d] t)) W) :
    W.cell? ⟨w.heap.size, 0, none⟩ = some a ∧ W.cell? ⟨w.heap.size, 1, none⟩ = some b ∧ W.cell? ⟨w.heap.size + 1, 0, none⟩ = some c ∧ W.cell? ⟨w.heap.size + 1, 1, none⟩ = some d := by
  obtain ⟨h1, h2, _⟩ := box_pair h
  obtain ⟨e0, e1, _⟩ := blk2 h1
  obtain ⟨f0, f1, _⟩ := blk2 h2
  exact ⟨e0, e1, f0, f1⟩
theorem sgn_sub {n1 n2 : Bool} {l1 l2 : List Nat} (hn1 : n1 = true → l1 ≠ []) (hn2 : n2 = true → l2 ≠ []) (hh1 : l1.head? ≠ some 0) (hh2 : l2.head? ≠ some 0) :
    (sgn (intOf2 n1 l1) ≠ sgn (intOf2 n2 l2) → sgn (intOf2 n1 l1 - intOf2 n2 l2) = if sgn (intOf2 n1 l1) < sgn (intOf2 n2 l2) then -1 else 1) ∧
    (sgn (intOf2 n1 l1) = sgn (intOf2 n2 l2) → sgn (intOf2 n1 l1 - intOf2 n2 l2) = if n1 then sgn ((natOf l2 : Int) - natOf l1) else sgn ((natOf l1 : Int) - natOf l2)) := by
  have e1 := sgn_pos (neg := n1) hh1
  have e2 := sgn_pos (neg := n2) hh2
  have d1 : sgn (intOf2 n1 []) = 0 := sgn_nil
  have d2 : sgn (intOf2 n2 []) = 0 := sgn_nil
  refine ⟨fun h => ?_, fun h => ?_⟩
  · revert h
    generalize intOf2 n1 l1 = x
    generalize intOf2 n2 l2 = y
    unfold sgn
    intro h
    split <;> split <;> (try split) <;> (try split) <;> (try split) <;> (try split) <;> omega
  · cases n1 with
    | true =>
      have h1 := e1 (hn1 rfl)
      cases n2 with
      | true => simp [intOf2]; congr 1; omega
      | false =>
        exfalso
        rw [h1] at h
        by_cases h2 : l2 = []
        · rw [h2, d2] at h; simp at h
        · rw [e2 h2] at h; simp at h
    | false =>
      cases n2 with
      | false => simp [intOf2]
      | true =>
        exfalso
        rw [e2 (hn2 rfl)] at h
        by_cases h2 : l1 = []
        · rw [h2, d1] at h; simp at h
        · rw [e1 h2] at h; simp at h
set_option maxRecDepth 100000 in
set_option maxHeartbeats 4000000 in
theorem cmp_full (B1 B2 : Nat) (v1 v2 : Value) (n1 n2 : Bool) (l1 l2 : List Nat) (w : World) (hv1 : SInt w B1 v1 n1 l1) (hv2 : SInt w B2 v2 n2 l2) :
    Calls Tryz.prog 39 #[v1, v2] w (OrdPost (intOf2 n1 l1 - intOf2 n2 l2) w) := by
  have HV1 := Lib.hid hv1
  have HV2 := Lib.hid hv2
  obtain ⟨vs1, rfl, ho1, hh1, hn1⟩ := hv1
  obtain ⟨g1, c1, hvs1, _, _, _, _⟩ := ho1.form
  obtain ⟨vs2, rfl, ho2, hh2, hn2⟩ := hv2
  obtain ⟨g2, c2, hvs2, _, _, _, _⟩ := ho2.form
  obtain ⟨m1, hm1⟩ : ∃ m, m = l1.length := ⟨_, rfl⟩
  obtain ⟨m2, hm2⟩ : ∃ m, m = l2.length := ⟨_, rfl⟩
  rw [← hm1] at hvs1
  rw [← hm2] at hvs2
  subst hvs1 hvs2
  obtain ⟨hs1, hs2⟩ := sgn_sub hn1 hn2 hh1 hh2
  obtain ⟨q1, hq1⟩ : ∃ q, q = sgn (intOf2 n1 l1) := ⟨_, rfl⟩
  obtain ⟨q2, hq2⟩ : ∃ q, q = sgn (intOf2 n2 l2) := ⟨_, rfl⟩
  have HQ1 := Lib.hid hq1
  have HQ2 := Lib.hid hq2
  rw [← hq1, ← hq2] at hs1 hs2
  have HS1 := Lib.hid hs1
  have HS2 := Lib.hid hs2
  have HO1 := Lib.hid ho1
  have HO2 := Lib.hid ho2
  have HH1 := Lib.hid hh1
  have HH2 := Lib.hid hh2
  have C0 := Lib.hid (Below.refl (w.heap.size + 1 + 1) ((w.alloc (.cells #[.bool n1, .slice (some ⟨g1, 0, none⟩) m1 c1] 68)).alloc (.cells #[.bool n2, .slice (some ⟨g2, 0, none⟩) m2 c2] 68)))
  clear ho1 ho2 hh1 hh2 hn1 hn2 hm1 hm2 hs1 hs2 hq1 hq2
  have tok1 : True := trivial
  have tok2 : True := trivial
  have tok3 : True := trivial
  have tok4 : True := trivial
  by_cases he : q1 = q2
  · have HQ := Lib.hid (HS2.out he)
    clear HS1 HS2
    subst he
    have hb : (q1 != q1) = false := by simp
    go_enter Tryz.func39, Tryz.ntmps39
    go_wp2_with fail
    go_region_held3 (fun W => W.cell? ⟨w.heap.size, 0, none⟩ = some (.bool n1) ∧ W.cell? ⟨w.heap.size, 1, none⟩ = some (.slice (some ⟨g1, 0, none⟩) m1 c1) ∧ W.cell? ⟨w.heap.size + 1, 0, none⟩ = some (.bool n2) ∧ W.cell? ⟨w.heap.size + 1, 1, none⟩ = some (.slice (some ⟨g2, 0, none⟩) m2 c2))
      (first | exact box_cells C2.out | exact box_cells C1.out | exact box_cells C0.out | go_keep)
      (first
      | (go_at_call 57; have _t := tok1; refine (spec_sign _ (HV1.out.below (box_pair C0.out.drew).2.2.2)).mono ?_; rw [← HQ1.out]; rintro e w1 ⟨rfl, hb1⟩; have C1 := Lib.hid (C0.out.drew.trans (hb1.mono (box_pair C0.out.drew).2.2.1)); clear _t tok1 hb1)
      | (go_at_call 57; have _t := tok2; refine (spec_sign _ (HV2.out.below (box_pair C1.out).2.2.2)).mono ?_; rw [← HQ2.out]; rintro e w2 ⟨rfl, hb2⟩; have C2 := Lib.hid (C1.out.trans (hb2.mono (box_pair C1.out).2.2.1)); clear _t tok2 hb2))
    obtain ⟨k0, k1, k2, k3⟩ := box_cells C2.out
    cases n1
    · go_wp2_with fail
      refine (order_full B1 B2 g1 c1 g2 c2 m1 m2 l1 l2 _ (HO1.out.below (box_pair C2.out).2.2.2) (HO2.out.below (box_pair C2.out).2.2.2) HH1.out HH2.out).mono ?_
      unfold OrdPost
      rw [show sgn ((natOf l1 : Int) - (natOf l2 : Int)) = sgn (intOf2 false l1 - intOf2 n2 l2) by rw [HQ.out]; rfl]
      rintro e w4 ⟨rfl, hb4⟩
      have HB := Lib.hid ((box_pair C2.out).2.2.2.trans (hb4.mono (box_pair C2.out).2.2.2.size))
      clear hb4
      go_wp2
      go_ret
      exact ⟨rfl, HB.out⟩
    · go_wp2_with fail
      refine (order_full B2 B1 g2 c2 g1 c1 m2 m1 l2 l1 _ (HO2.out.below (box_pair C2.out).2.2.2) (HO1.out.below (box_pair C2.out).2.2.2) HH2.out HH1.out).mono ?_
      unfold OrdPost
      rw [show sgn ((natOf l2 : Int) - (natOf l1 : Int)) = sgn (intOf2 true l1 - intOf2 n2 l2) by rw [HQ.out]; rfl]
      rintro e w4 ⟨rfl, hb4⟩
      have HB := Lib.hid ((box_pair C2.out).2.2.2.trans (hb4.mono (box_pair C2.out).2.2.2.size))
      clear hb4
      go_wp2
      go_ret
      exact ⟨rfl, HB.out⟩
  · have hb : (q1 != q2) = true := by rw [bne_iff_ne]; exact he
    obtain ⟨lt, hlt⟩ : ∃ lt, decide (q1 < q2) = lt := ⟨_, rfl⟩
    have HQ := Lib.hid (HS1.out he)
    clear HS1 HS2
    have HLT := Lib.hid hlt
    clear he
    go_enter Tryz.func39, Tryz.ntmps39
    go_wp2_with fail
    go_region_held3 (fun W => W.cell? ⟨w.heap.size, 0, none⟩ = some (.bool n1) ∧ W.cell? ⟨w.heap.size, 1, none⟩ = some (.slice (some ⟨g1, 0, none⟩) m1 c1) ∧ W.cell? ⟨w.heap.size + 1, 0, none⟩ = some (.bool n2) ∧ W.cell? ⟨w.heap.size + 1, 1, none⟩ = some (.slice (some ⟨g2, 0, none⟩) m2 c2))
      (first | exact box_cells C2.out | exact box_cells C1.out | exact box_cells C0.out | go_keep)
      (first
      | (go_at_call 57; have _t := tok1; refine (spec_sign _ (HV1.out.below (box_pair C0.out.drew).2.2.2)).mono ?_; rw [← HQ1.out]; rintro e w1 ⟨rfl, hb1⟩; have C1 := Lib.hid (C0.out.drew.trans (hb1.mono (box_pair C0.out.drew).2.2.1)); clear _t tok1 hb1)
      | (go_at_call 57; have _t := tok2; refine (spec_sign _ (HV2.out.below (box_pair C1.out).2.2.2)).mono ?_; rw [← HQ2.out]; rintro e w2 ⟨rfl, hb2⟩; have C2 := Lib.hid (C1.out.trans (hb2.mono (box_pair C1.out).2.2.1)); clear _t tok2 hb2))
    obtain ⟨k0, k1, k2, k3⟩ := box_cells C2.out
    go_wp2_with fail
    go_region_held3 (fun W => W.cell? ⟨w.heap.size, 0, none⟩ = some (.bool n1) ∧ W.cell? ⟨w.heap.size, 1, none⟩ = some (.slice (some ⟨g1, 0, none⟩) m1 c1) ∧ W.cell? ⟨w.heap.size + 1, 0, none⟩ = some (.bool n2) ∧ W.cell? ⟨w.heap.size + 1, 1, none⟩ = some (.slice (some ⟨g2, 0, none⟩) m2 c2))
      (first | exact box_cells C4.out | exact box_cells C3.out | exact box_cells C2.out | exact box_cells C2.out.drew | go_keep)
      (first
      | (go_at_call 57; have _t := tok3; refine (spec_sign _ (HV1.out.below (box_pair C2.out.drew).2.2.2)).mono ?_; rw [← HQ1.out]; rintro e w3 ⟨rfl, hb3⟩; have C3 := Lib.hid (C2.out.drew.trans (hb3.mono (box_pair C2.out.drew).2.2.1)); clear _t tok3 hb3)
      | (go_at_call 57; have _t := tok4; refine (spec_sign _ (HV2.out.below (box_pair C3.out).2.2.2)).mono ?_; rw [← HQ2.out]; rintro e w4 ⟨rfl, hb4⟩; have C4 := Lib.hid (C3.out.trans (hb4.mono (box_pair C3.out).2.2.1)); clear _t tok4 hb4))
    have HB := Lib.hid (box_pair C4.out).2.2.2
    cases lt
    · have h1 : ¬ q1 < q2 := by have := HLT.out; simpa using this
      have HR : Hid (sgn (intOf2 n1 l1 - intOf2 n2 l2) = 1) := by unfold Hid; rw [HQ.out, if_neg h1]
      clear h1
      go_wp2
      go_ret
      exact ⟨ret_int HR.out.symm, HB.out⟩
    · have h1 : q1 < q2 := by have := HLT.out; simpa using this
      have HR : Hid (sgn (intOf2 n1 l1 - intOf2 n2 l2) = -1) := by unfold Hid; rw [HQ.out, if_pos h1]
      clear h1
      go_wp2
      go_ret
      exact ⟨ret_int HR.out.symm, HB.out⟩
end Go.Proofs.YteibkaonofkcbaaGreat
