/- The reference's integer of a number. -/
import Derived.Test.YtndeolcamgnmdaaSpecSign
namespace Go.Proofs.Ytndeolcamgnmdaa
open Go.RowKit
theorem wrap64_pos (n : Int) (h0 : 0 ≤ n) (h1 : n.natAbs < W64) : IntKind.u64.wrap n = ((n.natAbs : Nat) : Int) := by
  unfold W64 at h1
  simp [IntKind.wrap, IntKind.bits, IntKind.signed]
  omega
theorem wrap64_neg (n : Int) (h0 : n < 0) (h1 : n.natAbs < W64) : IntKind.u64.wrap n = ((W64 - n.natAbs : Nat) : Int) := by
  unfold W64 at *
  simp [IntKind.wrap, IntKind.bits, IntKind.signed]
  omega
theorem wrap64_back (m : Nat) (h0 : 0 < m) (h1 : m < W64) : IntKind.u64.wrap (-((W64 - m : Nat) : Int)) = (m : Int) := by
  unfold W64 at *
  simp [IntKind.wrap, IntKind.bits, IntKind.signed]
  omega
def NumPost (n : Int) (w : World) (e : Ending) (w' : World) : Prop := ∃ v neg l, e = .returned v ∧ SInt w' w.heap.size v neg l ∧ (∀ x ∈ l, x < 256) ∧ intOf2 neg l = n ∧ Below w.heap.size w w'
theorem SInt.only {w w' : World} {B : Nat} {S : Nat → Prop} {v : Value} {neg : Bool} {l : List Nat} (h : SInt w B v neg l) (k : Only S w w') (hs : ∀ g, B ≤ g → ¬ S g) : SInt w' B v neg l := by
  obtain ⟨vs, hv, h1, h2⟩ := h
  exact ⟨vs, hv, h1.only k hs, h2⟩
theorem small_fin {n : Int} {neg : Bool} {lb : List Nat} (hneg : neg = decide (n < 0)) (hl : natOf lb = n.natAbs) : intOf2 (negOf neg lb) (strip lb) = n := by
  unfold intOf2
  rw [natOf_strip, hl]
  by_cases h : n < 0
  · have hs : strip lb ≠ [] := fun e => by
      have := natOf_strip lb
      rw [e, hl] at this
      simp [natOf] at this
      omega
    have : negOf neg lb = true := by
      subst hneg
      unfold negOf
      cases hq : strip lb with
      | nil => exact absurd hq hs
      | cons x r => simp [h]
    rw [this]
    simp
    omega
  · have : negOf neg lb = false := by subst hneg; simp [negOf, h]
    rw [this]
    simp
    omega
set_option maxHeartbeats 2000000 in
theorem small_any (n : Int) (hn : n.natAbs < W64) (w : World) :
    Calls Try.prog 8 #[.int .i64 n] w (NumPost n w) := by
  have hK := Lib.hid (Blk.new w 24 #[.bool false, .slice none 0 0])
  have HN := Lib.hid hn
  by_cases h0 : n < 0
  · obtain ⟨U, hU⟩ : ∃ U, U = W64 - n.natAbs := ⟨_, rfl⟩
    obtain ⟨m, hm⟩ : ∃ m, m = n.natAbs := ⟨_, rfl⟩
    have hw1 := wrap64_neg n h0 hn
    have hw2 := wrap64_back n.natAbs (by omega) hn
    rw [← hU] at hw1 hw2
    rw [← hm] at hw2
    have hd : decide (n < 0) = true := by simp [h0]
    have HU := Lib.hid hU
    have HM := Lib.hid hm
    have H0 := Lib.hid h0
    clear hU hm h0 hn
    go_enter Try.func8, Try.ntmps8
    go_wp2_with fail
    refine (bytes_of m (by have := HM.out; have := HN.out; omega) _).mono ?_
    rintro e w1 ⟨v1, lb, rfl, hob, h8, hnat, hb1⟩
    obtain ⟨g, c, hv1, hg1, _, _, _⟩ := hob.form
    rw [h8] at hv1
    subst hv1
    have HOB := Lib.hid hob
    have HNAT := Lib.hid hnat
    have H8 := Lib.hid h8
    have HB1 := Lib.hid hb1
    have k1 := Lib.hid (hK.out.below hb1 (by simp))
    clear hob hnat h8 hb1 hg1
    go_wp2_with fail
    refine (of_any true _ _ _ lb _ HOB.out.bsl (by have := H8.out; omega)).mono ?_
    rintro e w2 ⟨v2, rfl, hsi, hb2⟩
    have hfin := small_fin (n := n) (neg := true) (lb := lb) (by simp [H0.out]) (by rw [HNAT.out, HM.out])
    have HFIN := Lib.hid hfin
    have hbw : Below w.heap.size w w2 := ((Below.refl _ w).alloc (Nat.le_refl _) _).trans ((HB1.out.mono (by simp)).trans (hb2.mono (by have := HB1.out.size; simp at this; omega)))
    obtain ⟨c0, c1, f0, f1⟩ := blk2 (k1.out.below hb2 k1.out.lt)
    have hsz : w.heap.size + 1 ≤ w1.heap.size := by have := HB1.out.size; simpa using this
    have hsi' := Lib.hid (hsi.base (C := w.heap.size + 1) hsz)
    obtain ⟨vs, rfl, ho, hh, hn2⟩ := hsi
    obtain ⟨g2, c2, hvs, hg2, _, _, _⟩ := ho.form
    obtain ⟨r, hr⟩ : ∃ r, r = (strip lb).length := ⟨_, rfl⟩
    rw [← hr] at hvs
    subst hvs
    obtain ⟨nb, hnb⟩ : ∃ nb, nb = negOf true lb := ⟨_, rfl⟩
    rw [← hnb] at hsi' ⊢
    have HNB := Lib.hid hnb
    have HBS := Lib.hid ho.2.2
    have hbw' := Lib.hid hbw
    clear hb2 ho hh hn2 hr hnb hfin hbw
    go_wp2
    refine bodyPost_ret (v := .agg #[.bool nb, .slice (some ⟨g2, 0, none⟩) r c2]) (by simp [results, Try.results8, go_sem, c0, c1]) rfl ⟨_, nb, strip lb, rfl, ?_, HBS.out, by rw [HNB.out]; exact HFIN.out, (hbw'.out.setCell (p := ⟨w.heap.size, 0, none⟩) (Nat.le_refl _) _).setCell (p := ⟨w.heap.size, 1, none⟩) (Nat.le_refl _) _⟩
    exact (hsi'.out.only (two_set w2 w.heap.size (.bool nb) (.slice (some ⟨g2, 0, none⟩) r c2)) (fun k hk e => by omega)).base (by omega)
  · obtain ⟨m, hm⟩ : ∃ m, m = n.natAbs := ⟨_, rfl⟩
    have hw1 := wrap64_pos n (by omega) hn
    rw [← hm] at hw1
    have hd : decide (n < 0) = false := by simp [h0]
    have HM := Lib.hid hm
    have H0 := Lib.hid h0
    clear hm h0 hn
    go_enter Try.func8, Try.ntmps8
    go_wp2_with fail
    refine (bytes_of m (by have := HM.out; have := HN.out; omega) _).mono ?_
    rintro e w1 ⟨v1, lb, rfl, hob, h8, hnat, hb1⟩
    obtain ⟨g, c, hv1, hg1, _, _, _⟩ := hob.form
    rw [h8] at hv1
    subst hv1
    have HOB := Lib.hid hob
    have HNAT := Lib.hid hnat
    have H8 := Lib.hid h8
    have HB1 := Lib.hid hb1
    have k1 := Lib.hid (hK.out.below hb1 (by simp))
    clear hob hnat h8 hb1 hg1
    go_wp2_with fail
    refine (of_any false _ _ _ lb _ HOB.out.bsl (by have := H8.out; omega)).mono ?_
    rintro e w2 ⟨v2, rfl, hsi, hb2⟩
    have hfin := small_fin (n := n) (neg := false) (lb := lb) (by simp [H0.out]) (by rw [HNAT.out, HM.out])
    have HFIN := Lib.hid hfin
    have hbw : Below w.heap.size w w2 := ((Below.refl _ w).alloc (Nat.le_refl _) _).trans ((HB1.out.mono (by simp)).trans (hb2.mono (by have := HB1.out.size; simp at this; omega)))
    obtain ⟨c0, c1, f0, f1⟩ := blk2 (k1.out.below hb2 k1.out.lt)
    have hsz : w.heap.size + 1 ≤ w1.heap.size := by have := HB1.out.size; simpa using this
    have hsi' := Lib.hid (hsi.base (C := w.heap.size + 1) hsz)
    obtain ⟨vs, rfl, ho, hh, hn2⟩ := hsi
    obtain ⟨g2, c2, hvs, hg2, _, _, _⟩ := ho.form
    obtain ⟨r, hr⟩ : ∃ r, r = (strip lb).length := ⟨_, rfl⟩
    rw [← hr] at hvs
    subst hvs
    obtain ⟨nb, hnb⟩ : ∃ nb, nb = negOf false lb := ⟨_, rfl⟩
    rw [← hnb] at hsi' ⊢
    have HNB := Lib.hid hnb
    have HBS := Lib.hid ho.2.2
    have hbw' := Lib.hid hbw
    clear hb2 ho hh hn2 hr hnb hfin hbw
    go_wp2
    refine bodyPost_ret (v := .agg #[.bool nb, .slice (some ⟨g2, 0, none⟩) r c2]) (by simp [results, Try.results8, go_sem, c0, c1]) rfl ⟨_, nb, strip lb, rfl, ?_, HBS.out, by rw [HNB.out]; exact HFIN.out, (hbw'.out.setCell (p := ⟨w.heap.size, 0, none⟩) (Nat.le_refl _) _).setCell (p := ⟨w.heap.size, 1, none⟩) (Nat.le_refl _) _⟩
    exact (hsi'.out.only (two_set w2 w.heap.size (.bool nb) (.slice (some ⟨g2, 0, none⟩) r c2)) (fun k hk e => by omega)).base (by omega)
end Go.Proofs.Ytndeolcamgnmdaa
