/- The language's comparison of two ints, an arm. -/
import Derived.Test.YtbdnmfabmdbamaaStarBase
import Derived.Deep.RegionHeld3
import Derived.Deep.DrawnRows
namespace Go.Proofs.Ytbdnmfabmdbamaa
open Go.RowKit
attribute [local go_sem ↓] Go.wp_at_zero Go.wp_at_succ
set_option maxRecDepth 20000 in
set_option maxHeartbeats 4000000 in
theorem star_cmpB (B1 B2 : Nat) (x1 x2 : Int) (q1 : Addr) (q2 : Addr) (n m : Int) (d : Int) (w : World) (hv1 : SI w B1 (.agg #[.int .i64 x1, .pointer (some q1)]) n) (hv2 : SI w B2 (.agg #[.int .i64 x2, .pointer (some q2)]) m) (hne : ∀ b, ((some q1) : Option Addr) = some ⟨b, 0, none⟩ → ((some q2) : Option Addr) ≠ some ⟨b, 0, none⟩) :
    Calls Try.prog 30 #[.agg #[.int .i64 x1, .pointer (some q1)], .iface 56 (.agg #[.int .i64 x2, .pointer (some q2)]), .int .i64 d] w (StarCmpPost n m w) := by
  have C0 := Lib.hid (Below.refl (w.heap.size + 1 + 1) ((w.alloc (.cells #[.int .i64 x1, .pointer (some q1)] 56)).alloc (.cells #[.int .i64 x2, .pointer (some q2)] 56)))
  have HV1 := Lib.hid hv1
  have HV2 := Lib.hid hv2
  have HNE := Lib.hid hne
  have HW1 := Lib.hid (si_ptr hv1)
  have HW2 := Lib.hid (si_ptr hv2)
  have HIFF := Lib.hid (cmp_iff n m)
  clear hv1 hv2 hne
  have tok1 : True := trivial
  go_enter Try.func30, Try.ntmps30
  go_wp2_with fail
  refine (int_get x1 (some q1) _).mono ?_
  rintro e w1 ⟨rfl, hb1⟩
  have C1 := Lib.hid (C0.out.trans (hb1.mono (by simp)))
  clear hb1
  obtain ⟨⟨c0, c1, _, _⟩, ⟨c2, c3, _, _⟩, _⟩ := two_boxes C1.out
  go_wp2_with fail
  refine (int_get x2 (some q2) _).mono ?_
  rintro e w2 ⟨rfl, hb2⟩
  have C2 := Lib.hid (C1.out.trans (hb2.mono (by have := C1.out.size; simpa using this)))
  clear hb2 c0 c1 c2 c3
  obtain ⟨⟨d0, d1, _, _⟩, ⟨d2, d3, _, _⟩, _⟩ := two_boxes C2.out
  go_wp2_with fail
  go_region_held3 (fun w' => w'.cell? ⟨w.heap.size, 0, none⟩ = some (.int .i64 x1) ∧ w'.cell? ⟨w.heap.size, 1, none⟩ = some (.pointer (some q1)) ∧ w'.cell? ⟨w.heap.size + 1, 0, none⟩ = some (.int .i64 x2) ∧ w'.cell? ⟨w.heap.size + 1, 1, none⟩ = some (.pointer (some q2)))
    (first | exact four_of C4.out | exact four_of C3.out | exact ⟨d0, d1, d2, d3⟩ | go_keep)
    (first
    | (go_at_call 57; have _t := tok1; refine (star_bigint B1 (.agg #[.int .i64 x1, .pointer (some q1)]) n _ (HV1.out.below (two_boxes (C2.out.drew)).2.2)).mono ?_; rintro e w3 ⟨g1, n1, xs, rfl, hg1, hbi1, hval1, hb3⟩; have C3 := Lib.hid (C2.out.drew.trans (hb3.mono (two_size C2.out.drew))); have HB1 := Lib.hid hbi1; have HG1 := Lib.hid hg1; have HVL1 := Lib.hid hval1; clear hb3 hbi1 hg1 hval1 _t tok1)
    | (go_at_call 58; refine (big_cmp 0 0 g1 g2 n1 n2 xs ys _ HGN.out HB1b.out HB2.out).mono ?_; rintro e w5 ⟨rfl, q, rfl⟩)
    | (go_at_call 57; refine (star_bigint B2 (.agg #[.int .i64 x2, .pointer (some q2)]) m _ (HV2.out.below (two_boxes C3.out).2.2)).mono ?_; rintro e w4 ⟨g2, n2, ys, rfl, hg2, hbi2, hval2, hb4⟩; have C4 := Lib.hid (C3.out.trans (hb4.mono (two_size C3.out))); have HB2 := Lib.hid hbi2; have HB1b := Lib.hid (HB1.out.below hb4); have HGN := Lib.hid (cmp_apart HNE.out HW1.out HW2.out C2.out HB1.out HG1.out hg2); have HVL2 := Lib.hid hval2; clear hb4 hbi2 hg2 hval2))
  all_goals
    go_wp2
    go_ret2
    exact ⟨_, rfl, HIFF.out n1 n2 xs ys _ _ _ HB1b.out HB2.out HVL1.out HVL2.out, below_dn (two_boxes C4.out).2.2 _⟩
end Go.Proofs.Ytbdnmfabmdbamaa
