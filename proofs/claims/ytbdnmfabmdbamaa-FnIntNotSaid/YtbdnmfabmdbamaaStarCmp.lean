/- The language's comparison of two ints, as far as equal goes. -/
import Derived.Test.YtbdnmfabmdbamaaStarCmpA
import Derived.Test.YtbdnmfabmdbamaaStarCmpB
import Derived.Test.YtbdnmfabmdbamaaStarCmpC
namespace Go.Proofs.Ytbdnmfabmdbamaa
open Go.RowKit
set_option maxHeartbeats 2000000 in
theorem star_cmp (B1 B2 : Nat) (x1 x2 : Int) (p1 p2 : Option Addr) (n m : Int) (d : Int) (w : World) (hv1 : SI w B1 (.agg #[.int .i64 x1, .pointer p1]) n) (hv2 : SI w B2 (.agg #[.int .i64 x2, .pointer p2]) m) (hne : ∀ b, p1 = some ⟨b, 0, none⟩ → p2 ≠ some ⟨b, 0, none⟩) :
    Calls Try.prog 30 #[.agg #[.int .i64 x1, .pointer p1], .iface 56 (.agg #[.int .i64 x2, .pointer p2]), .int .i64 d] w (StarCmpPost n m w) := by
  have C0 := Lib.hid (Below.refl (w.heap.size + 1 + 1) ((w.alloc (.cells #[.int .i64 x1, .pointer p1] 56)).alloc (.cells #[.int .i64 x2, .pointer p2] 56)))
  by_cases hnil : p1 = none ∧ p2 = none
  · obtain ⟨rfl, rfl⟩ := hnil
    have hs1 : smallB n = true ∧ x1 = n := by
      rcases hv1 with ⟨h, e⟩ | ⟨_, _, _, _, e, _⟩
      · refine ⟨h, ?_⟩; simpa using e
      · simp at e
    have hs2 : smallB m = true ∧ x2 = m := by
      rcases hv2 with ⟨h, e⟩ | ⟨_, _, _, _, e, _⟩
      · refine ⟨h, ?_⟩; simpa using e
      · simp at e
    obtain ⟨s1, rfl⟩ := hs1
    obtain ⟨s2, rfl⟩ := hs2
    have b1 := of_decide_eq_true s1
    have b2 := of_decide_eq_true s2
    have hsub : IntKind.i64.wrap (x1 - x2) = x1 - x2 := by simp [IntKind.wrap, IntKind.bits, IntKind.signed]; omega
    have hq1 : x1 - x2 < 5000000000 := by omega
    have hq2 : -5000000000 ≤ x1 - x2 := by omega
    clear hv1 hv2 s1 s2 hne
    go_enter Try.func30, Try.ntmps30
    go_wp2_with fail
    refine (int_get x1 none _).mono ?_
    rintro e w1 ⟨rfl, hb1⟩
    have C1 := Lib.hid (C0.out.trans (hb1.mono (by simp)))
    clear hb1
    obtain ⟨⟨c0, c1, _, _⟩, ⟨c2, c3, _, _⟩, _⟩ := two_boxes C1.out
    go_wp2_with fail
    refine (int_get x2 none _).mono ?_
    rintro e w2 ⟨rfl, hb2⟩
    have C2 := Lib.hid (C1.out.trans (hb2.mono (by have := C1.out.size; simpa using this)))
    clear hb2
    go_wp2_with fail
    refine (signum_wide (x1 - x2) hq1 hq2 _).mono ?_
    unfold IntPost
    rintro e w3 ⟨rfl, rfl⟩
    go_wp2
    go_ret2
    exact ⟨_, rfl, sgn_zero, (two_boxes C2.out).2.2⟩
  · cases p1 with
    | none => cases p2 with
      | none => exact absurd ⟨rfl, rfl⟩ hnil
      | some q2 => exact star_cmpC B1 B2 x1 x2 q2 n m d w hv1 hv2 hne
    | some q1 => cases p2 with
      | none => exact star_cmpA B1 B2 x1 x2 q1 n m d w hv1 hv2 hne
      | some q2 => exact star_cmpB B1 B2 x1 x2 q1 q2 n m d w hv1 hv2 hne
end Go.Proofs.Ytbdnmfabmdbamaa
