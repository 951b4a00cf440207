/- The reference's sums and differences of integers. -/
import Derived.Test.YtndeolcamgnmdaaSpecAdd
import Derived.Test.YtndeolcamgnmdaaIntLen
import Derived.Deep.RegionHeld3
import Derived.Deep.DrawnRows
namespace Go.Proofs.Ytndeolcamgnmdaa
open Go.RowKit
attribute [local go_sem ↓] Go.wp_at_zero Go.wp_at_succ
theorem of_val (b : Bool) (l : List Nat) : intOf2 (negOf b l) (strip l) = intOf2 b l := by
  unfold intOf2 negOf
  rw [natOf_strip]
  cases b with
  | false => simp
  | true =>
    by_cases h : strip l = []
    · have : natOf l = 0 := by rw [← natOf_strip, h]; rfl
      simp [h, this]
    · have : (strip l).isEmpty = false := by simpa using h
      simp [this]
theorem num_fin {w w2 : World} {R : Nat} {nb : Bool} {sl : Value} {l : List Nat} {n : Int} (hR : w.heap.size ≤ R) (hs : SInt w2 (R + 1) (.agg #[.bool nb, sl]) nb l) (hn : intOf2 nb l = n) (hb : Below w.heap.size w w2) :
    NumPost n w (.returned (.agg #[.bool nb, sl])) ((w2.setCell ⟨R, 0, none⟩ (.bool nb)).setCell ⟨R, 1, none⟩ sl) := by
  have h256 : ∀ x ∈ l, x < 256 := by obtain ⟨_, _, ho, _⟩ := hs; exact ho.2.2
  exact ⟨_, nb, l, rfl, (hs.only (two_set w2 R (.bool nb) sl) (fun k hk e => by omega)).base (by omega), h256, hn, (hb.setCell (p := ⟨R, 0, none⟩) hR _).setCell (p := ⟨R, 1, none⟩) hR _⟩
theorem SInt.lit2 {w : World} {B : Nat} {v : Value} {neg : Bool} {l : List Nat} (h : SInt w B v neg l) : ∃ g c, v = .agg #[.bool neg, .slice (some ⟨g, 0, none⟩) l.length c] := by
  obtain ⟨vs, rfl, ho, _, _⟩ := h
  obtain ⟨g, c, hvs, _⟩ := ho.form
  exact ⟨g, c, by rw [hvs]⟩
theorem two_alloc {w W : World} {t : TypeId} {a b c d : Value} (h : Below (w.heap.size + 1 + 1) ((w.alloc (.cells #[a, b] t)).alloc (.cells #[c, d] t)) W) : Blk W w.heap.size t #[a, b] ∧ Blk W (w.heap.size + 1) t #[c, d] ∧ w.heap.size + 1 + 1 ≤ W.heap.size ∧ Below w.heap.size w W :=
  ⟨((Blk.new w t #[a, b]).alloc (.cells #[c, d] t)).below h (by omega), (Blk.new_at (w.alloc (.cells #[a, b] t)) t #[c, d] (n := w.heap.size + 1) (by simp)).below h (by omega), by have := h.size; simpa using this, (((Below.refl _ w).alloc (Nat.le_refl _) _).alloc (by simp) _).trans (h.mono (by omega))⟩
theorem minus_len {w w' : World} {B B' K : Nat} {v v' : Value} {n n' : Bool} {l l' : List Nat} (h : SInt w B v n l) (hn : intOf2 n l = -(intOf2 n' l')) (h' : SInt w' B' v' n' l') (hl : l'.length ≤ K) : l.length ≤ K := by
  obtain ⟨_, _, _, hh, _⟩ := h
  obtain ⟨_, _, ho', _, _⟩ := h'
  have h1 := natOf_lt l' ho'.2.2
  have h2 : natOf l = natOf l' := by unfold intOf2 at hn; cases n <;> cases n' <;> simp at hn <;> omega
  have h3 : 256 ^ l'.length ≤ 256 ^ K := Nat.pow_le_pow_right (by omega) hl
  exact natOf_lenle hh K (by omega)
theorem natOf_len2 {l : List Nat} (hh : l.head? ≠ some 0) (hb : ∀ x ∈ l, x < 256) {k : Nat} (h : natOf l < 256 ^ k) : l.length ≤ k := natOf_lenle hh k h
set_option maxHeartbeats 1000000 in
theorem spec_minus (B : Nat) (v : Value) (neg : Bool) (l : List Nat) (w : World) (hv : SInt w B v neg l) (hl : l.length ≤ 100000) :
    Calls Try.prog 29 #[v] w (NumPost (-(intOf2 neg l)) w) := by
  obtain ⟨vs, rfl, hob, hh, hn⟩ := hv
  obtain ⟨g, c, hvs, hg1, hg2, _, _⟩ := hob.form
  obtain ⟨m, hm⟩ : ∃ m, m = l.length := ⟨_, rfl⟩
  rw [← hm] at hvs
  subst hvs
  have HO := Lib.hid hob
  have HL := Lib.hid hl
  have HH := Lib.hid hh
  have C0 := Lib.hid (Below.refl (w.heap.size + 1 + 1) ((w.alloc (.cells #[.bool neg, .slice (some ⟨g, 0, none⟩) m c] 24)).alloc (.cells #[.bool false, .slice none 0 0] 24)))
  clear hob hh hn hm hl
  go_enter Try.func29, Try.ntmps29
  go_wp2_with fail
  refine (of_any (!neg) (some ⟨g, 0, none⟩) m c l _ ((HO.out.below (two_alloc C0.out).2.2.2).bsl) (by have := HL.out; omega)).mono ?_
  rintro e w2 ⟨v2, rfl, hsi, hb2⟩
  have HSI := Lib.hid (hsi.base (C := w.heap.size + 1 + 1) (by simp))
  have C1 := Lib.hid (C0.out.trans (hb2.mono (by simp)))
  obtain ⟨g2, c2, hv2⟩ := hsi.lit2
  obtain ⟨r, hr⟩ : ∃ r, r = (strip l).length := ⟨_, rfl⟩
  obtain ⟨nb, hnb⟩ : ∃ nb, nb = negOf (!neg) l := ⟨_, rfl⟩
  rw [← hr, ← hnb] at hv2
  rw [← hnb] at HSI
  have HNB := Lib.hid hnb
  subst hv2
  obtain ⟨c0, c1, f0, f1⟩ := blk2 (two_alloc C1.out).2.1
  clear hsi hb2 hr hnb
  go_wp2
  refine bodyPost_ret (v := .agg #[.bool nb, .slice (some ⟨g2, 0, none⟩) r c2]) (by simp [results, Try.results29, go_sem, c0, c1]) rfl (num_fin (l := strip l) (by omega) HSI.out ?_ (two_alloc C1.out).2.2.2)
  rw [HNB.out, of_val]
  cases neg <;> simp [intOf2]
theorem three_alloc {w W : World} {t : TypeId} {a b c d e f : Value} (h : Below (w.heap.size + 1 + 1 + 1) (((w.alloc (.cells #[a, b] t)).alloc (.cells #[c, d] t)).alloc (.cells #[e, f] t)) W) :
    Blk W w.heap.size t #[a, b] ∧ Blk W (w.heap.size + 1) t #[c, d] ∧ Blk W (w.heap.size + 1 + 1) t #[e, f] ∧ w.heap.size + 1 + 1 + 1 ≤ W.heap.size ∧ Below w.heap.size w W :=
  ⟨(((Blk.new w t #[a, b]).alloc (.cells #[c, d] t)).alloc (.cells #[e, f] t)).below h (by omega), ((Blk.new_at (w.alloc (.cells #[a, b] t)) t #[c, d] (n := w.heap.size + 1) (by simp)).alloc (.cells #[e, f] t)).below h (by omega), (Blk.new_at ((w.alloc (.cells #[a, b] t)).alloc (.cells #[c, d] t)) t #[e, f] (n := w.heap.size + 1 + 1) (by simp)).below h (by omega), by have := h.size; simpa using this, ((((Below.refl _ w).alloc (Nat.le_refl _) _).alloc (by simp) _).alloc (by simp; omega) _).trans (h.mono (by omega))⟩
theorem three_cells {w W : World} {t : TypeId} {a b c d e f : Value} (h : Below (w.heap.size + 1 + 1 + 1) (((w.alloc (.cells #[a, b] t)).alloc (.cells #[c, d] t)).alloc (.cells #[e, f] t)) W) :
    W.cell? ⟨w.heap.size, 0, none⟩ = some a ∧ W.cell? ⟨w.heap.size, 1, none⟩ = some b ∧ W.cell? ⟨w.heap.size + 1, 0, none⟩ = some c ∧ W.cell? ⟨w.heap.size + 1, 1, none⟩ = some d := by
  obtain ⟨h1, h2, _⟩ := three_alloc h
  obtain ⟨e0, e1, _⟩ := blk2 h1
  obtain ⟨f0, f1, _⟩ := blk2 h2
  exact ⟨e0, e1, f0, f1⟩
theorem three_set {w W : World} {t : TypeId} {a b c d e f : Value} (h : Below (w.heap.size + 1 + 1 + 1) (((w.alloc (.cells #[a, b] t)).alloc (.cells #[c, d] t)).alloc (.cells #[e, f] t)) W) (u u' : Value) :
    ((W.setCell ⟨w.heap.size + 1 + 1, 0, none⟩ u).setCell ⟨w.heap.size + 1 + 1, 1, none⟩ u').cell? ⟨w.heap.size, 0, none⟩ = some a ∧ ((W.setCell ⟨w.heap.size + 1 + 1, 0, none⟩ u).setCell ⟨w.heap.size + 1 + 1, 1, none⟩ u').cell? ⟨w.heap.size, 1, none⟩ = some b ∧
    ((W.setCell ⟨w.heap.size + 1 + 1, 0, none⟩ u).setCell ⟨w.heap.size + 1 + 1, 1, none⟩ u').cell? ⟨w.heap.size + 1, 0, none⟩ = some c ∧ ((W.setCell ⟨w.heap.size + 1 + 1, 0, none⟩ u).setCell ⟨w.heap.size + 1 + 1, 1, none⟩ u').cell? ⟨w.heap.size + 1, 1, none⟩ = some d := by
  obtain ⟨h1, h2, _⟩ := three_alloc h
  have k1 := (h1.far (p := ⟨w.heap.size + 1 + 1, 0, none⟩) (by simp; omega) u).far (p := ⟨w.heap.size + 1 + 1, 1, none⟩) (by simp; omega) u'
  have k2 := (h2.far (p := ⟨w.heap.size + 1 + 1, 0, none⟩) (by simp) u).far (p := ⟨w.heap.size + 1 + 1, 1, none⟩) (by simp) u'
  obtain ⟨e0, e1, _⟩ := blk2 k1
  obtain ⟨f0, f1, _⟩ := blk2 k2
  exact ⟨e0, e1, f0, f1⟩
def boxed (w : World) (t : TypeId) (n1 n2 : Bool) (s1 s2 : Value) : World := ((w.alloc (.cells #[.bool n1, s1] t)).alloc (.cells #[.bool n2, s2] t)).alloc (.cells #[.bool false, .slice none 0 0] t)
set_option maxRecDepth 100000 in
set_option maxHeartbeats 4000000 in
theorem spec_add (B1 B2 : Nat) (v1 v2 : Value) (n1 n2 : Bool) (l1 lb : List Nat) (w : World) (hv1 : SInt w B1 v1 n1 l1) (hv2 : SInt w B2 v2 n2 lb) (hl1 : l1.length ≤ 100000) (hl2 : lb.length ≤ 100000) :
    Calls Try.prog 19 #[v1, v2] w (NumPost (intOf2 n1 l1 + intOf2 n2 lb) w) := by
  obtain ⟨vs1, rfl, ho1, hh1, _⟩ := hv1
  obtain ⟨g1, c1, hvs1, _, _, _, _⟩ := ho1.form
  obtain ⟨vs2, rfl, ho2, hh2, _⟩ := hv2
  obtain ⟨g2, c2, hvs2, _, _, _, _⟩ := ho2.form
  obtain ⟨m1, hm1⟩ : ∃ m, m = l1.length := ⟨_, rfl⟩
  obtain ⟨m2, hm2⟩ : ∃ m, m = lb.length := ⟨_, rfl⟩
  rw [← hm1] at hvs1
  rw [← hm2] at hvs2
  subst hvs1 hvs2
  have HO1 := Lib.hid ho1
  have HOb := Lib.hid ho2
  have HH1 := Lib.hid hh1
  have HHb := Lib.hid hh2
  have hb1 := natOf_lt l1 ho1.2.2
  have hb2 := natOf_lt lb ho2.2.2
  obtain ⟨K, hK⟩ : ∃ K : Nat, K = 100000 := ⟨_, rfl⟩
  have hp1 : 256 ^ l1.length ≤ 256 ^ K := Nat.pow_le_pow_right (by omega) (by omega)
  have hp2 : 256 ^ lb.length ≤ 256 ^ K := Nat.pow_le_pow_right (by omega) (by omega)
  have hp3 : (256 : Nat) ^ (K + 1) = 256 ^ K * 256 := Nat.pow_succ ..
  have HLV : Hid (natOf l1 + natOf lb < 256 ^ (K + 1)) := by unfold Hid; rw [hp3]; generalize (256 : Nat) ^ 100000 = P at *; omega
  have HLEN : Hid (∀ l : List Nat, l.head? ≠ some 0 → (∀ x ∈ l, x < 256) → natOf l < 256 ^ (K + 1) → l.length ≤ 70368744177664) := fun l h1 h2 h3 => by have := natOf_len2 h1 h2 h3; omega
  have hm1' : m1 ≤ 100000 := by omega
  have hm2' : m2 ≤ 100000 := by omega
  clear ho1 ho2 hh1 hh2 hb1 hb2 hp1 hp2 hp3 hK hm1 hm2 hl1 hl2
  have tok1 : True := trivial
  have C0 := Lib.hid (Below.refl (w.heap.size + 1 + 1 + 1) (((w.alloc (.cells #[.bool n1, .slice (some ⟨g1, 0, none⟩) m1 c1] 24)).alloc (.cells #[.bool n2, .slice (some ⟨g2, 0, none⟩) m2 c2] 24)).alloc (.cells #[.bool false, .slice none 0 0] 24)))
  by_cases he : n1 = n2
  · subst he
    have hbq : (n1 == n1) = true := by simp
    go_enter Try.func19, Try.ntmps19
    go_wp2_with fail
    go_region_held3 (fun W => W.cell? ⟨w.heap.size, 0, none⟩ = some (.bool n1) ∧ W.cell? ⟨w.heap.size, 1, none⟩ = some (.slice (some ⟨g1, 0, none⟩) m1 c1) ∧ W.cell? ⟨w.heap.size + 1, 0, none⟩ = some (.bool n1) ∧ W.cell? ⟨w.heap.size + 1, 1, none⟩ = some (.slice (some ⟨g2, 0, none⟩) m2 c2))
      (first | exact three_set C3.out _ _ | exact three_cells C3.out | exact three_cells C2.out | exact three_cells C0.out | go_keep)
      (first
      | (go_at_call 35; have _t := tok1; refine (spec_sum _ _ g1 c1 g2 c2 m1 m2 l1 lb _ (HO1.out.below (three_alloc C0.out.drew).2.2.2.2) (HOb.out.below (three_alloc C0.out.drew).2.2.2.2) hm1' hm2').mono ?_; rintro e w2 ⟨v2, l2, rfl, ho2, hh2, hn2, hb2⟩; have C2 := Lib.hid (C0.out.drew.trans (hb2.mono (three_alloc C0.out.drew).2.2.2.1)); have HO2 := Lib.hid ho2; have HH2 := Lib.hid hh2; have HN2 := Lib.hid hn2; obtain ⟨g3, c3, hv2, _, _, _, _⟩ := ho2.form; obtain ⟨r2, hr2⟩ : ∃ r, r = l2.length := ⟨_, rfl⟩; rw [← hr2] at hv2; subst hv2; clear _t tok1 ho2 hh2 hn2 hb2 hr2)
      | (go_at_call 11; refine (of_any n1 (some ⟨g3, 0, none⟩) r2 c3 l2 _ HO2.out.bsl (HLEN.out l2 HH2.out HO2.out.2.2 (by rw [HN2.out]; exact HLV.out))).mono ?_; rintro e w3 ⟨v3, rfl, hsi, hb3⟩; have HSI := Lib.hid (hsi.base (C := w.heap.size + 1 + 1 + 1) (three_alloc C2.out).2.2.2.1); have C3 := Lib.hid (C2.out.trans (hb3.mono (three_alloc C2.out).2.2.2.1)); obtain ⟨g4, c4, hv3⟩ := hsi.lit2; obtain ⟨r3, hr3⟩ : ∃ r, r = (strip l2).length := ⟨_, rfl⟩; obtain ⟨nb, hnb⟩ : ∃ nb, nb = negOf n1 l2 := ⟨_, rfl⟩; rw [← hr3, ← hnb] at hv3; rw [← hnb] at HSI; have HNB := Lib.hid hnb; subst hv3; obtain ⟨k0, k1, f0, f1⟩ := blk2 (three_alloc C3.out).2.2.1; clear hsi hb3 hr3 hnb))
    all_goals
      go_wp2
      refine bodyPost_ret (v := .agg #[.bool nb, .slice (some ⟨g4, 0, none⟩) r3 c4]) (by simp [results, Try.results19, go_sem, k0, k1]) rfl (num_fin (l := strip l2) (by omega) HSI.out ?_ (three_alloc C3.out).2.2.2.2)
      rw [HNB.out, of_val]
      have h2 := HN2.out
      rw [show intOf2 n1 l2 = if n1 then -((natOf l1 + natOf lb : Nat) : Int) else ((natOf l1 + natOf lb : Nat) : Int) by unfold intOf2; rw [h2]]
      cases n1 <;> simp [intOf2] <;> omega

  · have hbq : (n1 == n2) = false := by cases n1 <;> cases n2 <;> simp at he ⊢
    obtain ⟨q, hq⟩ : ∃ q, q = sgn ((natOf l1 : Int) - (natOf lb : Int)) := ⟨_, rfl⟩
    by_cases hle : natOf lb ≤ natOf l1
    · have hq0 : 0 ≤ q := by rw [hq]; unfold sgn; split <;> (try split) <;> omega
      have HQ := Lib.hid hq
      have HE := Lib.hid he
      have HLE := Lib.hid hle
      clear hq he hle
      go_enter Try.func19, Try.ntmps19
      go_wp2_with fail
      refine (order_full _ _ g1 c1 g2 c2 m1 m2 l1 lb _ (HO1.out.below (three_alloc C0.out).2.2.2.2) (HOb.out.below (three_alloc C0.out).2.2.2.2) HH1.out HHb.out).mono ?_
      unfold OrdPost
      rw [← HQ.out]
      rintro e w1 ⟨rfl, hb1⟩
      have C1 := Lib.hid (C0.out.trans (hb1.mono (by simp)))
      obtain ⟨x0, x1, x2, x3⟩ := three_cells C1.out
      clear hb1
      go_wp2_with fail
      go_region_held3 (fun W => W.cell? ⟨w.heap.size, 0, none⟩ = some (.bool n1) ∧ W.cell? ⟨w.heap.size, 1, none⟩ = some (.slice (some ⟨g1, 0, none⟩) m1 c1) ∧ W.cell? ⟨w.heap.size + 1, 0, none⟩ = some (.bool n2) ∧ W.cell? ⟨w.heap.size + 1, 1, none⟩ = some (.slice (some ⟨g2, 0, none⟩) m2 c2))
        (first | exact three_set C3.out _ _ | exact three_cells C3.out | exact three_cells C2.out | exact three_cells C1.out | go_keep)
        (first
        | (go_at_call 36; have _t := tok1; refine (spec_less _ _ g1 c1 g2 c2 m1 m2 l1 lb _ (HO1.out.below (three_alloc C1.out.drew).2.2.2.2) (HOb.out.below (three_alloc C1.out.drew).2.2.2.2) hm1' (by omega) HLE.out).mono ?_; rintro e w2 ⟨v2, l2, rfl, ho2, hh2, hn2, hb2⟩; have C2 := Lib.hid (C1.out.drew.trans (hb2.mono (three_alloc C1.out.drew).2.2.2.1)); have HO2 := Lib.hid ho2; have HH2 := Lib.hid hh2; have HN2 := Lib.hid hn2; obtain ⟨g3, c3, hv2, _, _, _, _⟩ := ho2.form; obtain ⟨r2, hr2⟩ : ∃ r, r = l2.length := ⟨_, rfl⟩; rw [← hr2] at hv2; subst hv2; clear _t tok1 ho2 hh2 hn2 hb2 hr2)
        | (go_at_call 11; refine (of_any n1 (some ⟨g3, 0, none⟩) r2 c3 l2 _ HO2.out.bsl (HLEN.out l2 HH2.out HO2.out.2.2 (by rw [HN2.out]; exact (by have := HLV.out; exact Nat.lt_of_le_of_lt (Nat.le_trans (Nat.sub_le _ _) (Nat.le_add_right _ _)) this)))).mono ?_; rintro e w3 ⟨v3, rfl, hsi, hb3⟩; have HSI := Lib.hid (hsi.base (C := w.heap.size + 1 + 1 + 1) (three_alloc C2.out).2.2.2.1); have C3 := Lib.hid (C2.out.trans (hb3.mono (three_alloc C2.out).2.2.2.1)); obtain ⟨g4, c4, hv3⟩ := hsi.lit2; obtain ⟨r3, hr3⟩ : ∃ r, r = (strip l2).length := ⟨_, rfl⟩; obtain ⟨nb, hnb⟩ : ∃ nb, nb = negOf n1 l2 := ⟨_, rfl⟩; rw [← hr3, ← hnb] at hv3; rw [← hnb] at HSI; have HNB := Lib.hid hnb; subst hv3; obtain ⟨k0, k1, f0, f1⟩ := blk2 (three_alloc C3.out).2.2.1; clear hsi hb3 hr3 hnb))
      all_goals
        go_wp2
        refine bodyPost_ret (v := .agg #[.bool nb, .slice (some ⟨g4, 0, none⟩) r3 c4]) (by simp [results, Try.results19, go_sem, k0, k1]) rfl (num_fin (l := strip l2) (by omega) HSI.out ?_ (three_alloc C3.out).2.2.2.2)
        rw [HNB.out, of_val]
        have h2 := HN2.out
        have h3 := HE.out
        have h4 := HLE.out
        rw [show intOf2 n1 l2 = if n1 then -((natOf l1 - natOf lb : Nat) : Int) else ((natOf l1 - natOf lb : Nat) : Int) by unfold intOf2; rw [h2]]
        cases n1 <;> cases n2 <;> simp [intOf2] at h3 ⊢ <;> omega

    · have hq0 : q < 0 := by rw [hq]; unfold sgn; rw [if_pos (by omega)]; omega
      have HQ := Lib.hid hq
      have HE := Lib.hid he
      have HLE : Hid (natOf l1 ≤ natOf lb) := by unfold Hid; omega
      clear hq he hle
      go_enter Try.func19, Try.ntmps19
      go_wp2_with fail
      refine (order_full _ _ g1 c1 g2 c2 m1 m2 l1 lb _ (HO1.out.below (three_alloc C0.out).2.2.2.2) (HOb.out.below (three_alloc C0.out).2.2.2.2) HH1.out HHb.out).mono ?_
      unfold OrdPost
      rw [← HQ.out]
      rintro e w1 ⟨rfl, hb1⟩
      have C1 := Lib.hid (C0.out.trans (hb1.mono (by simp)))
      obtain ⟨x0, x1, x2, x3⟩ := three_cells C1.out
      clear hb1
      go_wp2_with fail
      go_region_held3 (fun W => W.cell? ⟨w.heap.size, 0, none⟩ = some (.bool n1) ∧ W.cell? ⟨w.heap.size, 1, none⟩ = some (.slice (some ⟨g1, 0, none⟩) m1 c1) ∧ W.cell? ⟨w.heap.size + 1, 0, none⟩ = some (.bool n2) ∧ W.cell? ⟨w.heap.size + 1, 1, none⟩ = some (.slice (some ⟨g2, 0, none⟩) m2 c2))
        (first | exact three_set C3.out _ _ | exact three_cells C3.out | exact three_cells C2.out | exact three_cells C1.out | go_keep)
        (first
        | (go_at_call 36; have _t := tok1; refine (spec_less _ _ g2 c2 g1 c1 m2 m1 lb l1 _ (HOb.out.below (three_alloc C1.out.drew).2.2.2.2) (HO1.out.below (three_alloc C1.out.drew).2.2.2.2) hm2' (by omega) HLE.out).mono ?_; rintro e w2 ⟨v2, l2, rfl, ho2, hh2, hn2, hb2⟩; have C2 := Lib.hid (C1.out.drew.trans (hb2.mono (three_alloc C1.out.drew).2.2.2.1)); have HO2 := Lib.hid ho2; have HH2 := Lib.hid hh2; have HN2 := Lib.hid hn2; obtain ⟨g3, c3, hv2, _, _, _, _⟩ := ho2.form; obtain ⟨r2, hr2⟩ : ∃ r, r = l2.length := ⟨_, rfl⟩; rw [← hr2] at hv2; subst hv2; clear _t tok1 ho2 hh2 hn2 hb2 hr2)
        | (go_at_call 11; refine (of_any n2 (some ⟨g3, 0, none⟩) r2 c3 l2 _ HO2.out.bsl (HLEN.out l2 HH2.out HO2.out.2.2 (by rw [HN2.out]; exact (by have := HLV.out; exact Nat.lt_of_le_of_lt (Nat.le_trans (Nat.sub_le _ _) (Nat.le_add_left _ _)) this)))).mono ?_; rintro e w3 ⟨v3, rfl, hsi, hb3⟩; have HSI := Lib.hid (hsi.base (C := w.heap.size + 1 + 1 + 1) (three_alloc C2.out).2.2.2.1); have C3 := Lib.hid (C2.out.trans (hb3.mono (three_alloc C2.out).2.2.2.1)); obtain ⟨g4, c4, hv3⟩ := hsi.lit2; obtain ⟨r3, hr3⟩ : ∃ r, r = (strip l2).length := ⟨_, rfl⟩; obtain ⟨nb, hnb⟩ : ∃ nb, nb = negOf n2 l2 := ⟨_, rfl⟩; rw [← hr3, ← hnb] at hv3; rw [← hnb] at HSI; have HNB := Lib.hid hnb; subst hv3; obtain ⟨k0, k1, f0, f1⟩ := blk2 (three_alloc C3.out).2.2.1; clear hsi hb3 hr3 hnb))
      all_goals
        go_wp2
        refine bodyPost_ret (v := .agg #[.bool nb, .slice (some ⟨g4, 0, none⟩) r3 c4]) (by simp [results, Try.results19, go_sem, k0, k1]) rfl (num_fin (l := strip l2) (by omega) HSI.out ?_ (three_alloc C3.out).2.2.2.2)
        rw [HNB.out, of_val]
        have h2 := HN2.out
        have h3 := HE.out
        have h4 := HLE.out
        rw [show intOf2 n2 l2 = if n2 then -((natOf lb - natOf l1 : Nat) : Int) else ((natOf lb - natOf l1 : Nat) : Int) by unfold intOf2; rw [h2]]
        cases n1 <;> cases n2 <;> simp [intOf2] at h3 ⊢ <;> omega

set_option maxRecDepth 20000 in
set_option maxHeartbeats 2000000 in
theorem spec_sub (B1 B2 : Nat) (v1 v2 : Value) (n1 n2 : Bool) (l1 lb : List Nat) (w : World) (hv1 : SInt w B1 v1 n1 l1) (hv2 : SInt w B2 v2 n2 lb) (hl1 : l1.length ≤ 100000) (hl2 : lb.length ≤ 100000) :
    Calls Try.prog 14 #[v1, v2] w (NumPost (intOf2 n1 l1 - intOf2 n2 lb) w) := by
  have HV1 := Lib.hid hv1
  have HV2 := Lib.hid hv2
  have HL1 := Lib.hid hl1
  have HL2 := Lib.hid hl2
  obtain ⟨g1, c1, rfl⟩ := hv1.lit2
  obtain ⟨g2, c2, rfl⟩ := hv2.lit2
  obtain ⟨m1, hm1⟩ : ∃ m, m = l1.length := ⟨_, rfl⟩
  obtain ⟨m2, hm2⟩ : ∃ m, m = lb.length := ⟨_, rfl⟩
  rw [← hm1] at HV1 ⊢
  rw [← hm2] at HV2 ⊢
  clear hv1 hv2 hl1 hl2 hm1 hm2
  have C0 := Lib.hid (Below.refl (w.heap.size + 1 + 1 + 1) (((w.alloc (.cells #[.bool n1, .slice (some ⟨g1, 0, none⟩) m1 c1] 24)).alloc (.cells #[.bool n2, .slice (some ⟨g2, 0, none⟩) m2 c2] 24)).alloc (.cells #[.bool false, .slice none 0 0] 24)))
  go_enter Try.func14, Try.ntmps14
  go_wp2_with fail
  go_region_held3 (fun W => W.cell? ⟨w.heap.size, 0, none⟩ = some (.bool n1) ∧ W.cell? ⟨w.heap.size, 1, none⟩ = some (.slice (some ⟨g1, 0, none⟩) m1 c1) ∧ W.cell? ⟨w.heap.size + 1, 0, none⟩ = some (.bool n2) ∧ W.cell? ⟨w.heap.size + 1, 1, none⟩ = some (.slice (some ⟨g2, 0, none⟩) m2 c2))
    (first | exact three_set C3.out _ _ | exact three_cells C3.out | exact three_cells C2.out | exact three_cells C0.out | go_keep)
    (first
    | (go_at_call 29; refine (spec_minus _ _ n2 lb _ (HV2.out.below (three_alloc C0.out.drew).2.2.2.2) HL2.out).mono ?_; rintro e w2 ⟨v2, n3, l3, rfl, hsi, hby, hn3, hb2⟩; have C2 := Lib.hid (C0.out.drew.trans (hb2.mono (three_alloc C0.out.drew).2.2.2.1)); have HV3 := Lib.hid hsi; have HN3 := Lib.hid hn3; have HL3 := Lib.hid (minus_len hsi hn3 HV2.out HL2.out); obtain ⟨g3, c3, hv3⟩ := hsi.lit2; obtain ⟨r3, hr3⟩ : ∃ r, r = l3.length := ⟨_, rfl⟩; rw [← hr3] at hv3; subst hv3; clear hsi hby hn3 hb2 hr3)
    | (go_at_call 19; refine (spec_add _ _ _ _ n1 n3 l1 l3 _ (HV1.out.below (three_alloc C2.out).2.2.2.2) HV3.out HL1.out HL3.out).mono ?_; rintro e w3 ⟨v4, n4, l4, rfl, hsi, hby, hn4, hb3⟩; have HSI := Lib.hid (hsi.base (C := w.heap.size + 1 + 1 + 1) (three_alloc C2.out).2.2.2.1); have HN4 := Lib.hid hn4; have C3 := Lib.hid (C2.out.trans (hb3.mono (three_alloc C2.out).2.2.2.1)); obtain ⟨g4, c4, hv4⟩ := hsi.lit2; obtain ⟨r4, hr4⟩ : ∃ r, r = l4.length := ⟨_, rfl⟩; rw [← hr4] at hv4; rw [hv4] at HSI; subst hv4; obtain ⟨k0, k1, f0, f1⟩ := blk2 (three_alloc C3.out).2.2.1; clear hsi hby hn4 hb3 hr4))
  all_goals
    go_wp2
    refine bodyPost_ret (v := .agg #[.bool n4, .slice (some ⟨g4, 0, none⟩) r4 c4]) (by simp [results, Try.results14, go_sem, k0, k1]) rfl (num_fin (l := l4) (by omega) HSI.out ?_ (three_alloc C3.out).2.2.2.2)
    rw [HN4.out, HN3.out]
    omega
end Go.Proofs.Ytndeolcamgnmdaa
