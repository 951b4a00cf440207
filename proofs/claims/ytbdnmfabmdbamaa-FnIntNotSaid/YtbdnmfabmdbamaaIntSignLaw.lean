/- The law's walk: the sign of an int. -/
import Derived.Test.YtbdnmfabmdbamaaIntSign
import Derived.Test.YtbdnmfabmdbamaaSmall
namespace Go.Proofs.Ytbdnmfabmdbamaa
open Go.RowKit
theorem natOf_lenle {l : List Nat} (hh : l.head? ≠ some 0) (k : Nat) (h : natOf l < 256 ^ k) : l.length ≤ k := by
  cases l with
  | nil => simp
  | cons x r =>
    have hx : x ≠ 0 := fun e => hh (by simp [e])
    have h1 : 256 ^ r.length ≤ natOf (x :: r) := by
      simp only [natOf]
      have := Nat.mul_le_mul_right (256 ^ r.length) (Nat.pos_of_ne_zero hx)
      omega
    have h2 := (Nat.pow_lt_pow_iff_right (a := 256) (by omega)).1 (Nat.lt_of_le_of_lt h1 h)
    simp; omega
theorem sint_head {w : World} {B : Nat} {v : Value} {neg : Bool} {l : List Nat} (h : SInt w B v neg l) : l.head? ≠ some 0 := by
  obtain ⟨_, _, _, h, _⟩ := h
  exact h
theorem intOf2_len {neg : Bool} {l : List Nat} {n : Int} (hh : l.head? ≠ some 0) (hn : intOf2 neg l = n) (h1 : -9223372036854775808 ≤ n) (h2 : n < 18446744073709551616) : l.length ≤ 8 := by
  refine natOf_lenle hh 8 ?_
  have : (256 : Nat) ^ 8 = 18446744073709551616 := by decide
  rw [this]
  cases neg <;> simp [intOf2] at hn <;> omega
theorem pair_facts {w w1 W' : World} {t1 t2 : TypeId} {a b c0 c1 c2 c3 c4 c5 : Value} (hb : Below w.heap.size w w1) (h : Below (w1.heap.size + 1 + 1) ((w1.alloc (.cells #[a, b] t1)).alloc (.cells #[c0, c1, c2, c3, c4, c5] t2)).drew W') :
    (W'.cell? ⟨w1.heap.size, 0, none⟩ = some a ∧ W'.cell? ⟨w1.heap.size, 1, none⟩ = some b ∧ W'.frozen? ⟨w1.heap.size, 0, none⟩ = false ∧ W'.frozen? ⟨w1.heap.size, 1, none⟩ = false) ∧
    (W'.cell? ⟨w1.heap.size + 1, 0, none⟩ = some c0 ∧ W'.cell? ⟨w1.heap.size + 1, 1, none⟩ = some c1 ∧ W'.cell? ⟨w1.heap.size + 1, 2, none⟩ = some c2 ∧ W'.cell? ⟨w1.heap.size + 1, 3, none⟩ = some c3 ∧ W'.cell? ⟨w1.heap.size + 1, 4, none⟩ = some c4 ∧ W'.cell? ⟨w1.heap.size + 1, 5, none⟩ = some c5 ∧
      W'.frozen? ⟨w1.heap.size + 1, 0, none⟩ = false ∧ W'.frozen? ⟨w1.heap.size + 1, 1, none⟩ = false ∧ W'.frozen? ⟨w1.heap.size + 1, 2, none⟩ = false ∧ W'.frozen? ⟨w1.heap.size + 1, 3, none⟩ = false ∧ W'.frozen? ⟨w1.heap.size + 1, 4, none⟩ = false ∧ W'.frozen? ⟨w1.heap.size + 1, 5, none⟩ = false) ∧
    Below w1.heap.size w1 W' ∧ Below w.heap.size w W' := by
  have hw1 : Below w1.heap.size w1 W' := ((((Below.refl _ w1).alloc (Nat.le_refl _) _).alloc (by simp) _).drew).trans (h.mono (by omega))
  refine ⟨blk2 (Blk.below (w' := W') (Blk.drew (Blk.alloc (Blk.new w1 t1 #[a, b]) (.cells #[c0, c1, c2, c3, c4, c5] t2))) h (by omega)),
    blk6 (Blk.below (w' := W') (Blk.drew (Blk.new_at (w1.alloc (.cells #[a, b] t1)) t2 #[c0, c1, c2, c3, c4, c5] (n := w1.heap.size + 1) (by simp))) h (by omega)), hw1, hb.trans (hw1.mono hb.size)⟩
set_option maxRecDepth 20000 in
set_option maxHeartbeats 1600000 in
theorem int_sign (an : Bool) (a : Option Addr) (len cap : Nat) (zs : List Int) (w : World) (h : IsRow .u8 w a len cap zs) :
    Calls Try.prog 3 #[.bool an, .slice a len cap] w fun e w' => e = .returned (.bool true) ∧ Below w.heap.size w w' := by
  by_cases hs : len ≤ 2147483647
  · have hd : decide ((2147483647 : Int) < (len : Int)) = false := by simp; omega
    obtain ⟨hb, hlen⟩ := bsl_of_row h
    obtain ⟨l, hl⟩ : ∃ l, l = (zs.take len).map Int.toNat := ⟨_, rfl⟩
    rw [← hl] at hb hlen
    obtain ⟨m, hm⟩ : ∃ m, (len ≤ 400 ∧ m = len) ∨ (400 < len ∧ m = 400) := by
      by_cases h4 : len ≤ 400
      · exact ⟨_, .inl ⟨h4, rfl⟩⟩
      · exact ⟨_, .inr ⟨by omega, rfl⟩⟩
    have HWA := Lib.hid (show ∀ W', Below w.heap.size w W' → Calls Try.prog 8 #[.bool an, .slice a len cap, .int .i64 400] W' (WholePost an (l.take m) W') from fun W' hbw => whole_at an a len cap 400 m l W' (hb.old hbw) (by omega) hm)
    obtain ⟨ll, hll⟩ : ∃ ll, ll = strip (l.take m) := ⟨_, rfl⟩
    obtain ⟨nb, hnb⟩ : ∃ nb, nb = negOf an (l.take m) := ⟨_, rfl⟩
    have hlen2 : ll.length ≤ 1000 := by
      rw [hll]
      refine Nat.le_trans (strip_le _) ?_
      rw [List.length_take]
      omega
    have HL := Lib.hid hlen2
    unfold WholePost at HWA
    rw [← hll, ← hnb] at HWA
    clear hm hlen hb hl h hs hll hnb hlen2
    go_enter Try.func3, Try.ntmps3
    go_wp2_with fail
    refine (HWA.out _ (Below.refl _ _)).mono ?_
    rintro e w1 ⟨v, u, rfl, hsi, hiv, hb1⟩
    have HSI := Lib.hid hsi
    have HIV := Lib.hid hiv
    have HB1 := Lib.hid hb1
    obtain ⟨vs, rfl, hov, _, _⟩ := hsi
    obtain ⟨us, rfl, hou, _, _⟩ := hiv
    obtain ⟨g, c, hvs, _, _, _, _⟩ := hov.form
    obtain ⟨g2, c2, hus, _, _, _, _⟩ := hou.form
    obtain ⟨r, hr⟩ : ∃ r, r = ll.length := ⟨_, rfl⟩
    rw [← hr] at hvs hus
    subst hvs hus
    clear hb1 hov hou hr
    go_wp2_with fail
    have C0 := Lib.hid (Below.refl (w1.heap.size + 1 + 1) ((w1.alloc (.cells #[.bool nb, .slice (some ⟨g, 0, none⟩) r c] 24)).alloc (.cells #[.int .i64 2, .bool nb, .slice (some ⟨g2, 0, none⟩) r c2, .int .u64 0, .string ⟨#[]⟩, .slice none 0 0] 28)).drew)
    go_region_with ((first
      | (go_at_call 9; refine (impl_sign _ _ nb ll _ (HIV.out.below (pair_facts HB1.out C0.out).2.2.1) HL.out).mono ?_; unfold SgnPost; rintro e w2 ⟨rfl, hb2⟩; have C1 := Lib.hid (C0.out.trans (hb2.mono (by simp))); clear hb2; obtain ⟨⟨c0, c1, _, _⟩, _, _, _⟩ := pair_facts HB1.out C1.out)
      | (go_at_call 10; refine (spec_sign _ (HSI.out.below (pair_facts HB1.out C1.out).2.2.1)).mono ?_; rintro e w3 ⟨rfl, hb3⟩; have C2 := Lib.hid (C1.out.trans (hb3.mono (by have := C1.out.size; simpa using this))); clear hb3)
      | (go_at_call 12; refine (small_any (-7) (by unfold W64; decide) _).mono ?_; rintro e w4 ⟨v4, n4, l4, rfl, hsi4, hby4, hn4, hb4⟩; have HC := Lib.hid hn4; have HSI4 := Lib.hid hsi4; have HL4 := Lib.hid (intOf2_len (sint_head hsi4) hn4 (by omega) (by omega)); have C3 := Lib.hid (C2.out.trans (hb4.mono (by have := C2.out.size; simp at this ⊢; omega))); obtain ⟨vs4, rfl, hob4, _, _⟩ := hsi4; obtain ⟨g4, d4, hvs4, _, _, _, _⟩ := hob4.form; subst hvs4; clear hb4 hby4 hn4 hob4)
      | (go_at_call 11; refine (told_any _ _ n4 l4 _ HSI4.out (by have := HL4.out; omega)).mono ?_; rintro e w5 ⟨v5, rfl, hiv5, hb5⟩; have HIV5 := Lib.hid hiv5; have C4 := Lib.hid (C3.out.trans (hb5.mono (by have := C3.out.size; simp at this ⊢; omega))); obtain ⟨vs5, rfl, hob5, _, _⟩ := hiv5; obtain ⟨g5, d5, hvs5, _, _, _, _⟩ := hob5.form; subst hvs5; clear hb5 hob5)
      | (go_at_call 9; refine (impl_sign _ _ n4 l4 _ HIV5.out (by have := HL4.out; omega)).mono ?_; unfold SgnPost; rw [HC.out]; rintro e w6 ⟨rfl, hb6⟩; have C5 := Lib.hid (C4.out.trans (hb6.mono (by have := C4.out.size; simp at this ⊢; omega))); clear hb6)))
    all_goals
      go_wp2
      go_ret
      exact ⟨rfl, (pair_facts HB1.out C5.out).2.2.2⟩
  · have hd : decide ((2147483647 : Int) < (len : Int)) = true := by simp; omega
    go_enter Try.func3, Try.ntmps3
    go_wp2
    go_ret
    exact ⟨rfl, Below.refl _ _⟩
end Go.Proofs.Ytbdnmfabmdbamaa
