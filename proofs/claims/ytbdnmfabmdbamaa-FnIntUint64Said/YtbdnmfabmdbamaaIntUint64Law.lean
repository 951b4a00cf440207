/- The law's walk: an int as a number without a sign. -/
import Derived.Test.YtbdnmfabmdbamaaIntU64
import Derived.Test.YtbdnmfabmdbamaaIntEqualLaw
namespace Go.Proofs.Ytbdnmfabmdbamaa
open Go.RowKit
attribute [local go_sem ↓] Go.wp_at_zero Go.wp_at_succ
theorem SInt.lit {w : World} {B : Nat} {v : Value} {neg : Bool} {l : List Nat} (h : SInt w B v neg l) : ∃ g c, v = .agg #[.bool neg, .slice (some ⟨g, 0, none⟩) l.length c] := by
  obtain ⟨vs, rfl, ho, _, _⟩ := h
  obtain ⟨g, c, hvs, _⟩ := ho.form
  exact ⟨g, c, by rw [hvs]⟩
theorem IVal.lit {w : World} {B : Nat} {v : Value} {neg : Bool} {l : List Nat} (h : IVal w B v neg l) : ∃ g c, v = .agg #[.int .i64 2, .bool neg, .slice (some ⟨g, 0, none⟩) l.length c, .int .u64 0, .string ⟨#[]⟩, .slice none 0 0] := by
  obtain ⟨vs, rfl, ho, _, _⟩ := h
  obtain ⟨g, c, hvs, _⟩ := ho.form
  exact ⟨g, c, by rw [hvs]⟩
set_option maxRecDepth 20000 in
set_option maxHeartbeats 1600000 in
theorem known_any (w : World) :
    Calls Try.prog 17 #[] w fun e w' => e = .returned (.bool true) ∧ Below w.heap.size w w' := by
  go_enter Try.func17, Try.ntmps17
  go_wp2_with fail
  refine (small_any (-5) (by unfold W64; decide) _).mono ?_
  rintro e w1 ⟨v1, n1, l1, rfl, hsi1, _, hn1, hb1⟩
  have HN1 := Lib.hid hn1
  have HS1 := Lib.hid hsi1
  have HB1 := Lib.hid hb1
  have HL1 := Lib.hid (intOf2_len (sint_head hsi1) hn1 (by omega) (by omega))
  obtain ⟨g1, c1, hv1⟩ := hsi1.lit
  obtain ⟨r1, hr1⟩ : ∃ r, r = l1.length := ⟨_, rfl⟩
  rw [← hr1] at hv1
  subst hv1
  clear hn1 hsi1 hb1 hr1
  go_wp2_with fail
  refine (told_any _ _ n1 l1 _ HS1.out (by have := HL1.out; omega)).mono ?_
  rintro e w2 ⟨v2, rfl, hiv2, hb2⟩
  have HV2 := Lib.hid hiv2
  have HB2 := Lib.hid (HB1.out.trans (hb2.mono HB1.out.size))
  obtain ⟨g2, c2, hv2⟩ := hiv2.lit
  obtain ⟨r2, hr2⟩ : ∃ r, r = l1.length := ⟨_, rfl⟩
  rw [← hr2] at hv2
  subst hv2
  clear hiv2 hb2 hr2
  go_wp2_with fail
  refine (impl_int64_small _ _ n1 l1 _ HV2.out (by have := HL1.out; omega) (by rw [HN1.out]; decide)).mono ?_
  unfold I64Post
  rw [HN1.out]
  rintro e w3 ⟨rfl, hb3⟩
  have HB3 := Lib.hid (HB2.out.trans (hb3.mono HB2.out.size))
  clear hb3
  go_wp2_with fail
  refine (small_any 6 (by unfold W64; decide) _).mono ?_
  rintro e w4 ⟨v4, n4, l4, rfl, hsi4, _, hn4, hb4⟩
  have HN4 := Lib.hid hn4
  have HS4 := Lib.hid hsi4
  have HB4 := Lib.hid (HB3.out.trans (hb4.mono HB3.out.size))
  have HL4 := Lib.hid (intOf2_len (sint_head hsi4) hn4 (by omega) (by omega))
  obtain ⟨g4, c4, hv4⟩ := hsi4.lit
  obtain ⟨r4, hr4⟩ : ∃ r, r = l4.length := ⟨_, rfl⟩
  rw [← hr4] at hv4
  subst hv4
  clear hn4 hsi4 hb4 hr4
  go_wp2_with fail
  refine (told_any _ _ n4 l4 _ HS4.out (by have := HL4.out; omega)).mono ?_
  rintro e w5 ⟨v5, rfl, hiv5, hb5⟩
  have HV5 := Lib.hid hiv5
  have HB5 := Lib.hid (HB4.out.trans (hb5.mono HB4.out.size))
  obtain ⟨g5, c5, hv5⟩ := hiv5.lit
  obtain ⟨r5, hr5⟩ : ∃ r, r = l4.length := ⟨_, rfl⟩
  rw [← hr5] at hv5
  subst hv5
  clear hiv5 hb5 hr5
  go_wp2_with fail
  refine (impl_uint64 _ _ n4 l4 _ HV5.out (by have := HL4.out; omega)).mono ?_
  unfold U64Post
  rw [HN4.out]
  rintro e w6 ⟨u, b, rfl, hu, hb6⟩
  have HB6 := Lib.hid (HB5.out.trans (hb6.mono HB5.out.size))
  obtain ⟨rfl, rfl⟩ : b = true ∧ u = 6 := by
    rcases hu with ⟨h1, h2, _⟩ | ⟨_, h2⟩
    · exact ⟨h1, by omega⟩
    · unfold W64 at h2; omega
  clear hu hb6
  go_wp2
  go_ret
  exact ⟨rfl, HB6.out⟩
theorem u64_two {n : Int} {u1 u2 : Nat} {b1 b2 : Bool} (h1 : (b1 = true ∧ (u1 : Int) = n ∧ u1 < W64) ∨ (b1 = false ∧ (n < 0 ∨ (W64 : Int) ≤ n))) (h2 : (b2 = true ∧ (u2 : Int) = n ∧ u2 < W64) ∨ (b2 = false ∧ (n < 0 ∨ (W64 : Int) ≤ n))) :
    (b1 = true ∧ b2 = true ∧ u1 = u2) ∨ (b1 = false ∧ b2 = false) := by
  rcases h1 with ⟨a1, a2, a3⟩ | ⟨a1, a2⟩ <;> rcases h2 with ⟨c1, c2, c3⟩ | ⟨c1, c2⟩
  · exact .inl ⟨a1, c1, by omega⟩
  · exfalso; rcases c2 with c2 | c2 <;> omega
  · exfalso; rcases a2 with a2 | a2 <;> omega
  · exact .inr ⟨a1, c1⟩
theorem pair1b {w1 w2 : World} {t1 t2 : TypeId} {cs1 cs2 : Array Value} (hb2 : Below (w1.heap.size + 1 + 1) ((w1.alloc (.cells cs1 t1)).alloc (.cells cs2 t2)) w2) : Below w1.heap.size w1 w2 :=
  (((Below.refl _ w1).alloc (Nat.le_refl _) _).alloc (by simp) _).trans (hb2.mono (by omega))
set_option maxRecDepth 20000 in
set_option maxHeartbeats 1600000 in
theorem law_uint64 (an : Bool) (a : Option Addr) (len cap : Nat) (zs : List Int) (w : World) (h : IsRow .u8 w a len cap zs) :
    Calls Try.prog 5 #[.bool an, .slice a len cap] w fun e w' => e = .returned (.bool true) ∧ Below w.heap.size w w' := by
  by_cases hs : len ≤ 2147483647
  · have hd : decide ((2147483647 : Int) < (len : Int)) = false := by simp; omega
    obtain ⟨nb, ll, hl, _, hwa⟩ := whole_of an a len cap zs w h 400 (by omega)
    have HL := Lib.hid hl
    have HWA := Lib.hid hwa
    clear hl hwa h hs
    go_enter Try.func5, Try.ntmps5
    go_wp2_with fail
    refine (HWA.out _ (Below.refl _ _)).mono ?_
    rintro e w1 ⟨v, u, rfl, hsi, hiv, hb1⟩
    have HSI := Lib.hid hsi
    have HIV := Lib.hid hiv
    have HB1 := Lib.hid hb1
    obtain ⟨g, c, hv⟩ := hsi.lit
    obtain ⟨g2, c2, hu⟩ := hiv.lit
    obtain ⟨r, hr⟩ : ∃ r, r = ll.length := ⟨_, rfl⟩
    rw [← hr] at hv hu
    subst hv hu
    clear hb1 hr hsi hiv
    have C0 := Lib.hid (Below.refl (w1.heap.size + 1 + 1) ((w1.alloc (.cells #[.bool nb, .slice (some ⟨g, 0, none⟩) r c] 24)).alloc (.cells #[.int .i64 2, .bool nb, .slice (some ⟨g2, 0, none⟩) r c2, .int .u64 0, .string ⟨#[]⟩, .slice none 0 0] 28)))
    go_wp2_with fail
    refine (spec_uint64 _ _ nb ll _ (HSI.out.below (pair1b C0.out)) (by have := HL.out; omega)).mono ?_
    rintro e w2 ⟨u1, b1, rfl, hu1, hb2⟩
    have C1 := Lib.hid (C0.out.trans (hb2.mono (by simp)))
    clear hb2
    obtain ⟨e0, e1, e2, e3, e4, e5, _⟩ := blk6 (pair1 C1.out).2.1
    go_wp2_with fail
    refine (impl_uint64 _ _ nb ll _ (HIV.out.below (pair1b C1.out)) HL.out).mono ?_
    rintro e w3 ⟨u2, b2, rfl, hu2, hb3⟩
    have HB3 := Lib.hid ((HB1.out.trans ((pair1b C1.out).mono HB1.out.size)).trans (hb3.mono (Nat.le_trans HB1.out.size (pair1b C1.out).size)))
    have hu := u64_two hu1 hu2
    clear hb3 hu1 hu2 e0 e1 e2 e3 e4 e5
    rcases hu with ⟨rfl, rfl, rfl⟩ | ⟨rfl, rfl⟩
    all_goals
      go_wp2_with fail
      refine (known_any _).mono ?_
      rintro e w4 ⟨rfl, hb4⟩
      have HB4 := Lib.hid (HB3.out.trans (hb4.mono HB3.out.size))
      clear hb4
      go_wp2
      go_ret
      exact ⟨rfl, HB4.out⟩
  · have hd : decide ((2147483647 : Int) < (len : Int)) = true := by simp; omega
    go_enter Try.func5, Try.ntmps5
    go_wp2
    go_ret
    exact ⟨rfl, Below.refl _ _⟩
end Go.Proofs.Ytbdnmfabmdbamaa
