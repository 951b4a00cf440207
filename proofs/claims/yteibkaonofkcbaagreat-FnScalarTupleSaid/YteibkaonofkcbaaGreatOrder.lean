/- The reference's order of two magnitudes; its comparison of two integers, as far as equal goes. -/
import Derived.Test.YteibkaonofkcbaaGreatTupJoinC
import Derived.Deep.DeepCutAuto
set_option linter.unusedSimpArgs false
set_option linter.unusedVariables false
namespace Go.Proofs.YteibkaonofkcbaaGreat
open Go.RowKit
def EqPost (P : Prop) (w : World) (e : Ending) (w' : World) : Prop := ∃ r : Int, e = .returned (.int .i64 r) ∧ (-1 ≤ r ∧ r ≤ 1) ∧ (r = 0 ↔ P) ∧ Below w.heap.size w w'
theorem eq_of_all {xs ys : List Nat} {m : Nat} (h1 : m = xs.length) (h2 : m = ys.length) (h : ∀ j (hj : j < xs.length) (hk : j < ys.length), j < m → xs[j]'hj = ys[j]'hk) : xs = ys := by
  refine List.ext_getElem (by omega) fun i hi hk => h i hi hk (by omega)
set_option maxHeartbeats 1600000 in
theorem order_any (B1 B2 g1 c1 g2 c2 m1 m2 : Nat) (xs ys : List Nat) (w : World) (h1 : OB w B1 (.slice (some ⟨g1, 0, none⟩) m1 c1) xs) (h2 : OB w B2 (.slice (some ⟨g2, 0, none⟩) m2 c2) ys) :
    Calls Tryz.prog 58 #[.slice (some ⟨g1, 0, none⟩) m1 c1, .slice (some ⟨g2, 0, none⟩) m2 c2] w (EqPost (xs = ys) w) := by
  have hm1 : m1 = xs.length ∧ m1 ≤ c1 ∧ c1 ≤ maxLen := by obtain ⟨_, _, hv, _, _, h1, h2⟩ := h1.form; injection hv with _ e1 e2; subst e1 e2; exact ⟨rfl, h1, h2⟩
  have hm2 : m2 = ys.length := by obtain ⟨_, _, hv, _, _, h1, h2⟩ := h2.form; injection hv
  obtain ⟨hm1, hmc, hcm⟩ := hm1
  unfold maxLen at hcm
  have H1 := Lib.hid h1
  have H2 := Lib.hid h2
  have HM1 := Lib.hid hm1
  have HM2 := Lib.hid hm2
  clear h1 h2 hm1 hm2
  by_cases hne : m1 = m2
  · subst hne
    go_enter Tryz.func58, Tryz.ntmps58
    go_wp2_with fail
    go_loopw [5] (fun iv wr => ∃ i : Nat, i ≤ m1 ∧ iv = .int .i64 (i : Int) ∧ Hid (∀ j (hj : j < xs.length) (hk : j < ys.length), j < i → xs[j]'hj = ys[j]'hk) ∧ Hid (OB wr B1 (.slice (some ⟨g1, 0, none⟩) m1 c1) xs) ∧ Hid (OB wr B2 (.slice (some ⟨g2, 0, none⟩) m1 c2) ys) ∧ Below w.heap.size w wr)
      (fun iv _ => ((m1 : Int) - intOf iv).toNat)
    case atStart => exact ⟨0, Nat.zero_le _, rfl, fun j hj hk h => absurd h (Nat.not_lt_zero _), H1.out, H2.out, Below.refl _ _⟩
    case round =>
      obtain ⟨i, hi, rfl, hall, ho1, ho2, hb⟩ := hrel
      by_cases him : i < m1
      · have hix : i < xs.length := by rw [← HM1.out]; exact him
        have hiy : i < ys.length := by rw [← HM2.out]; exact him
        have hc1 := ho1.out.cell i hix
        have hc2 := ho2.out.cell i hiy
        obtain ⟨x, hx⟩ : ∃ x, x = xs[i]'hix := ⟨_, rfl⟩
        obtain ⟨y, hy⟩ : ∃ y, y = ys[i]'hiy := ⟨_, rfl⟩
        rw [← hx] at hc1
        rw [← hy] at hc2
        have HX := Lib.hid hx
        have HY := Lib.hid hy
        have hlt : i < c1 := by omega
        clear hx hy
        by_cases hxy : x = y
        · subst hxy
          go_wp2_with fail
          go_quiet (fail)
          go_wp2
          go_roundw
          case rel =>
            refine ⟨i + 1, by omega, by go_num, fun j hj hk h => ?_, ho1.out.below (below_dn (Below.refl _ _) _), ho2.out.below (below_dn (Below.refl _ _) _), below_dn hb _⟩
            by_cases e : j = i
            · subst e; rw [← HX.out, ← HY.out]
            · exact hall.out j hj hk (by omega)
          case measure => simp [intOf]; omega
        · have hb1 : ((x : Int) == (y : Int)) = false := by rw [beq_eq_false_iff_ne]; omega
          have hb2 : ((x : Int) != (y : Int)) = true := by rw [bne_iff_ne]; omega
          have hnn : ¬ xs = ys := fun e => hxy (by rw [HX.out, HY.out]; simp [e])
          have HNN := Lib.hid hnn
          clear hnn
          by_cases hlt2 : x < y
          · have hd : decide (x < y) = true := by simpa using hlt2
            clear hlt2 hxy
            go_wp2_with fail
            go_quiet (fail)
            go_wp2_with fail
            go_quiet (fail)
            go_wp2
            go_ret
            exact ⟨-1, rfl, by omega, by simp [HNN.out], below_dn (below_dn hb _) _⟩
          · have hd : decide (x < y) = false := by simp; omega
            clear hlt2 hxy
            go_wp2_with fail
            go_quiet (fail)
            go_wp2_with fail
            go_quiet (fail)
            go_wp2
            go_ret
            exact ⟨1, rfl, by omega, by simp [HNN.out], below_dn (below_dn hb _) _⟩
      · obtain rfl : i = m1 := by omega
        go_wp2
        go_ret
        exact ⟨0, rfl, by omega, by simp [eq_of_all HM1.out HM2.out hall.out], hb⟩
  · have hb1 : ((m1 : Int) == (m2 : Int)) = false := by rw [beq_eq_false_iff_ne]; omega
    have hnn : ¬ xs = ys := fun e => hne (by rw [HM1.out, HM2.out, e])
    by_cases hlt : m1 < m2
    · have hd : decide ((m1 : Int) < (m2 : Int)) = true := by simp; omega
      clear hne
      go_enter Tryz.func58, Tryz.ntmps58
      go_wp2
      go_ret
      exact ⟨-1, rfl, by omega, by simp [hnn], Below.refl _ _⟩
    · have hd : decide ((m1 : Int) < (m2 : Int)) = false := by simp; omega
      clear hne
      go_enter Tryz.func58, Tryz.ntmps58
      go_wp2
      go_ret
      exact ⟨1, rfl, by omega, by simp [hnn], Below.refl _ _⟩
theorem sgn_ne {a b : Int} (h : sgn a ≠ sgn b) : a ≠ b := fun e => h (by rw [e])
theorem int_eq {n1 n2 : Bool} {xs ys : List Nat} (bx : ∀ x ∈ xs, x < 256) (by' : ∀ y ∈ ys, y < 256) (hx : xs.head? ≠ some 0) (hy : ys.head? ≠ some 0) (h1 : n1 = true → xs ≠ []) (h2 : n2 = true → ys ≠ []) (hs : sgn (intOf2 n1 xs) = sgn (intOf2 n2 ys)) : n1 = n2 ∧ (xs = ys ↔ intOf2 n1 xs = intOf2 n2 ys) := by
  have e1 := natOf_eq_zero hx
  have e2 := natOf_eq_zero hy
  have f1 : n1 = true → natOf xs ≠ 0 := fun e h => h1 e (e1.1 h)
  have f2 : n2 = true → natOf ys ≠ 0 := fun e h => h2 e (e2.1 h)
  have hn : n1 = n2 := by
    cases n1 <;> cases n2
    · rfl
    · have := f2 rfl; simp only [sgn, intOf2] at hs; split at hs <;> simp at * <;> (first | omega | (split at hs <;> simp at * <;> omega))
    · have := f1 rfl; simp only [sgn, intOf2] at hs; split at hs <;> simp at * <;> (first | omega | (split at hs <;> simp at * <;> omega))
    · rfl
  subst hn
  refine ⟨rfl, fun e => by rw [e], fun e => natOf_unique bx by' hx hy ?_⟩
  cases n1 <;> simp [intOf2] at e <;> omega
theorem two_boxes {w W' : World} {t : TypeId} {a b c d : Value} (h : Below (w.heap.size + 1 + 1) ((w.alloc (.cells #[a, b] t)).alloc (.cells #[c, d] t)) W') :
    (W'.cell? ⟨w.heap.size, 0, none⟩ = some a ∧ W'.cell? ⟨w.heap.size, 1, none⟩ = some b ∧ W'.frozen? ⟨w.heap.size, 0, none⟩ = false ∧ W'.frozen? ⟨w.heap.size, 1, none⟩ = false) ∧
    (W'.cell? ⟨w.heap.size + 1, 0, none⟩ = some c ∧ W'.cell? ⟨w.heap.size + 1, 1, none⟩ = some d ∧ W'.frozen? ⟨w.heap.size + 1, 0, none⟩ = false ∧ W'.frozen? ⟨w.heap.size + 1, 1, none⟩ = false) ∧
    Below w.heap.size w W' := by
  have hw1 : Below w.heap.size w W' := (((Below.refl _ w).alloc (Nat.le_refl _) _).alloc (by simp) _).trans (h.mono (by omega))
  exact ⟨blk2 (Blk.below (w' := W') (Blk.alloc (Blk.new w t #[a, b]) (.cells #[c, d] t)) h (by omega)),
    blk2 (Blk.below (w' := W') (Blk.new_at (w.alloc (.cells #[a, b] t)) t #[c, d] (n := w.heap.size + 1) (by simp)) h (by omega)), hw1⟩
set_option maxRecDepth 20000 in
set_option maxHeartbeats 20000000 in
theorem spec_cmp {B1 B2 : Nat} {v1 v2 : Value} {n1 n2 : Bool} {xs ys : List Nat} (w : World) (hv1 : SInt w B1 v1 n1 xs) (hv2 : SInt w B2 v2 n2 ys) :
    Calls Tryz.prog 39 #[v1, v2] w (EqPost (intOf2 n1 xs = intOf2 n2 ys) w) := by
  have HS1 := Lib.hid hv1
  have HS2 := Lib.hid hv2
  obtain ⟨vs1, rfl, ho1, hh1, hn1⟩ := hv1
  obtain ⟨vs2, rfl, ho2, hh2, hn2⟩ := hv2
  have hie := Lib.hid (int_eq (n1 := n1) (n2 := n2) ho1.2.2 ho2.2.2 hh1 hh2 hn1 hn2)
  have HO1 := Lib.hid ho1
  have HO2 := Lib.hid ho2
  obtain ⟨g1, c1, hvs1, _, _, _, _⟩ := ho1.form
  obtain ⟨g2, c2, hvs2, _, _, _, _⟩ := ho2.form
  obtain ⟨m1, hm1⟩ : ∃ m, m = xs.length := ⟨_, rfl⟩
  obtain ⟨m2, hm2⟩ : ∃ m, m = ys.length := ⟨_, rfl⟩
  rw [← hm1] at hvs1
  rw [← hm2] at hvs2
  subst hvs1 hvs2
  obtain ⟨s1, hs1⟩ : ∃ s, s = sgn (intOf2 n1 xs) := ⟨_, rfl⟩
  obtain ⟨s2, hs2⟩ : ∃ s, s = sgn (intOf2 n2 ys) := ⟨_, rfl⟩
  have HG1 := Lib.hid hs1
  have HG2 := Lib.hid hs2
  have hP1 := Lib.hid (fun W (h : Below w.heap.size w W) => spec_sign W (HS1.out.below h))
  have hP2 := Lib.hid (fun W (h : Below w.heap.size w W) => spec_sign W (HS2.out.below h))
  rw [← hs1] at hP1
  rw [← hs2] at hP2
  clear hs1 hs2 ho1 ho2 hh1 hh2 hn1 hn2 hm1 hm2
  have C0 := Lib.hid (Below.refl (w.heap.size + 1 + 1) ((w.alloc (.cells #[.bool n1, .slice (some ⟨g1, 0, none⟩) m1 c1] 68)).alloc (.cells #[.bool n2, .slice (some ⟨g2, 0, none⟩) m2 c2] 68)))
  by_cases hs : s1 = s2
  · have hr := hie.out (by rw [← HG1.out, ← HG2.out]; exact hs)
    obtain ⟨hnn, hiff⟩ := hr
    subst hs hnn
    have HF := Lib.hid hiff
    clear hiff hie
    go_enter Tryz.func39, Tryz.ntmps39
    go_upto_region 1 with fail
    go_cut [9] from 5 (fun s9 wx => s9 = .bool false ∧ Hid (Below (w.heap.size + 1 + 1) ((w.alloc (.cells #[.bool n1, .slice (some ⟨g1, 0, none⟩) m1 c1] 68)).alloc (.cells #[.bool n1, .slice (some ⟨g2, 0, none⟩) m2 c2] 68)) wx))
    case first =>
      go_region_with ((first
        | (go_at_call 57; refine (hP2.out _ (two_boxes D1.out).2.2).mono ?_; rintro e w3 ⟨rfl, hb3⟩; have D2 := Lib.hid (D1.out.trans (hb3.mono (by have := D1.out.size; simpa using this))); clear hb3)
        | (go_at_call 57; refine (hP1.out _ (two_boxes (C0.out.drew)).2.2).mono ?_; rintro e w2 ⟨rfl, hb2⟩; have D1 := Lib.hid (C0.out.drew.trans (hb2.mono (by simp))); clear hb2; obtain ⟨⟨d0, d1, _, _⟩, ⟨d2, d3, _, _⟩, _⟩ := two_boxes D1.out)))
      all_goals
        go_wp2_with fail
        go_meet
        exact ⟨rfl, D2.out⟩
    case rest =>
      obtain ⟨rfl, D2⟩ := hcut
      obtain ⟨⟨d4, d5, _, _⟩, ⟨d6, d7, _, _⟩, _⟩ := two_boxes D2.out
      cases n1
      · go_wp2_with fail
        refine (order_any _ _ _ _ _ _ _ _ xs ys _ (HO1.out.below (two_boxes D2.out).2.2) (HO2.out.below (two_boxes D2.out).2.2)).mono ?_
        rintro e w4 ⟨r, rfl, hr, hri, hb4⟩
        have HR := Lib.hid hri
        have HB := Lib.hid ((two_boxes D2.out).2.2.trans (hb4.mono (two_boxes D2.out).2.2.size))
        clear hri hb4
        go_wp2
        go_ret
        exact ⟨r, rfl, hr, HR.out.trans HF.out, HB.out⟩
      · go_wp2_with fail
        refine (order_any _ _ _ _ _ _ _ _ ys xs _ (HO2.out.below (two_boxes D2.out).2.2) (HO1.out.below (two_boxes D2.out).2.2)).mono ?_
        rintro e w4 ⟨r, rfl, hr, hri, hb4⟩
        have HR := Lib.hid hri
        have HB := Lib.hid ((two_boxes D2.out).2.2.trans (hb4.mono (two_boxes D2.out).2.2.size))
        clear hri hb4
        go_wp2
        go_ret
        exact ⟨r, rfl, hr, HR.out.trans (Iff.trans eq_comm HF.out), HB.out⟩
  · have hne : ¬ intOf2 n1 xs = intOf2 n2 ys := fun e => hs (by rw [HG1.out, HG2.out, e])
    have HNE := Lib.hid hne
    have hb1 : (s1 == s2) = false := by rw [beq_eq_false_iff_ne]; exact hs
    have hb2 : (s1 != s2) = true := by rw [bne_iff_ne]; exact hs
    obtain ⟨bl, hbl⟩ : ∃ bl, decide (s1 < s2) = bl := ⟨_, rfl⟩
    clear hne hs hie
    go_enter Tryz.func39, Tryz.ntmps39
    go_upto_region 1 with fail
    go_cut [9] from 5 (fun s9 wx => s9 = .bool true ∧ Hid (Below (w.heap.size + 1 + 1) ((w.alloc (.cells #[.bool n1, .slice (some ⟨g1, 0, none⟩) m1 c1] 68)).alloc (.cells #[.bool n2, .slice (some ⟨g2, 0, none⟩) m2 c2] 68)) wx))
    case first =>
      go_region_with ((first
        | (go_at_call 57; refine (hP2.out _ (two_boxes D1.out).2.2).mono ?_; rintro e w3 ⟨rfl, hb3⟩; have D2 := Lib.hid (D1.out.trans (hb3.mono (by have := D1.out.size; simpa using this))); clear hb3)
        | (go_at_call 57; refine (hP1.out _ (two_boxes (C0.out.drew)).2.2).mono ?_; rintro e w2 ⟨rfl, hb2⟩; have D1 := Lib.hid (C0.out.drew.trans (hb2.mono (by simp))); clear hb2; obtain ⟨⟨d0, d1, _, _⟩, ⟨d2, d3, _, _⟩, _⟩ := two_boxes D1.out)))
      all_goals
        go_wp2_with fail
        go_meet
        exact ⟨rfl, D2.out⟩
    case rest =>
      obtain ⟨rfl, D⟩ := hcut
      obtain ⟨⟨d4, d5, _, _⟩, ⟨d6, d7, _, _⟩, _⟩ := two_boxes D.out
      go_upto_region 2 with fail
      go_cut [14] from 5 (fun s14 wx => s14 = .bool bl ∧ Hid (Below (w.heap.size + 1 + 1) ((w.alloc (.cells #[.bool n1, .slice (some ⟨g1, 0, none⟩) m1 c1] 68)).alloc (.cells #[.bool n2, .slice (some ⟨g2, 0, none⟩) m2 c2] 68)) wx))
      case first =>
        go_region_with ((first
          | (go_at_call 57; refine (hP2.out _ (two_boxes D1.out).2.2).mono ?_; rintro e w3 ⟨rfl, hb3⟩; have D2 := Lib.hid (D1.out.trans (hb3.mono (by have := D1.out.size; simpa using this))); clear hb3)
          | (go_at_call 57; refine (hP1.out _ (two_boxes (D.out.drew)).2.2).mono ?_; rintro e w2 ⟨rfl, hb2⟩; have D1 := Lib.hid (D.out.drew.trans (hb2.mono (by have := D.out.size; simpa using this))); clear hb2; obtain ⟨⟨d0, d1, _, _⟩, ⟨d2, d3, _, _⟩, _⟩ := two_boxes D1.out)))
        all_goals
          go_wp2_with fail
          go_meet
          exact ⟨rfl, D2.out⟩
      case rest =>
        obtain ⟨rfl, D2⟩ := hcut
        cases bl
        · go_wp2
          go_ret
          exact ⟨1, rfl, by omega, by simp [HNE.out], (two_boxes D2.out).2.2⟩
        · go_wp2
          go_ret
          exact ⟨-1, rfl, by omega, by simp [HNE.out], (two_boxes D2.out).2.2⟩
end Go.Proofs.YteibkaonofkcbaaGreat
