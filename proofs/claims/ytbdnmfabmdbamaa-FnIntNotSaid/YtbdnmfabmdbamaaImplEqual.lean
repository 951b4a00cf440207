/- The program's comparison of two ints of the thin package. -/
import Derived.Test.YtbdnmfabmdbamaaStarCmp
import Derived.Test.YtbdnmfabmdbamaaCompared
namespace Go.Proofs.Ytbdnmfabmdbamaa
open Go.RowKit
theorem boxes6 {w W' : World} {t : TypeId} {a0 a1 a2 a3 a4 a5 b0 b1 b2 b3 b4 b5 : Value} (h : Below (w.heap.size + 1 + 1) ((w.alloc (.cells #[a0, a1, a2, a3, a4, a5] t)).alloc (.cells #[b0, b1, b2, b3, b4, b5] t)) W') :
    Blk W' w.heap.size t #[a0, a1, a2, a3, a4, a5] ∧ Blk W' (w.heap.size + 1) t #[b0, b1, b2, b3, b4, b5] ∧ Below w.heap.size w W' := by
  have hw1 : Below w.heap.size w W' := (((Below.refl _ w).alloc (Nat.le_refl _) _).alloc (by simp) _).trans (h.mono (by omega))
  exact ⟨Blk.below (w' := W') (Blk.alloc (Blk.new w t #[a0, a1, a2, a3, a4, a5]) (.cells #[b0, b1, b2, b3, b4, b5] t)) h (by omega),
    Blk.below (w' := W') (Blk.new_at (w.alloc (.cells #[a0, a1, a2, a3, a4, a5] t)) t #[b0, b1, b2, b3, b4, b5] (n := w.heap.size + 1) (by simp)) h (by omega), hw1⟩
theorem si_low {w : World} {B : Nat} {x : Int} {p : Option Addr} {n : Int} (hv : SI w B (.agg #[.int .i64 x, .pointer p]) n) : ∀ b, p = some ⟨b, 0, none⟩ → B ≤ b := fun b h => by
  rcases hv with ⟨_, e⟩ | ⟨_, b', _, _, e, hb, _, _⟩
  · subst h; simp at e
  · subst h; simp at e; rw [e.2]; exact hb
theorem si_apart {w1 w2 : World} {B : Nat} {x1 x2 : Int} {p1 p2 : Option Addr} {n m : Int} (h1 : SI w1 B (.agg #[.int .i64 x1, .pointer p1]) n) (h2 : SI w2 w1.heap.size (.agg #[.int .i64 x2, .pointer p2]) m) : ∀ b, p1 = some ⟨b, 0, none⟩ → p2 ≠ some ⟨b, 0, none⟩ := fun b e1 e2 => by
  have a := si_ptr h1 b e1
  have c := si_low h2 b e2
  omega
def ImplEqPost (P : Prop) (w : World) (e : Ending) (w' : World) : Prop := ∃ b : Bool, e = .returned (.tuple #[.bool b, .bool true]) ∧ (b = true ↔ P) ∧ Below w.heap.size w w'
set_option maxRecDepth 20000 in
set_option maxHeartbeats 8000000 in
theorem impl_equal (B1 B2 : Nat) (v1 v2 : Value) (n1 n2 : Bool) (l1 l2 : List Nat) (w : World) (hv1 : IVal w B1 v1 n1 l1) (hv2 : IVal w B2 v2 n2 l2) (hl1 : l1.length ≤ 1000) (hl2 : l2.length ≤ 1000) :
    Calls Try.prog 13 #[v1, v2] w (ImplEqPost (intOf2 n1 l1 = intOf2 n2 l2) w) := by
  have HV1 := Lib.hid hv1
  have HV2 := Lib.hid hv2
  have HL1 := Lib.hid hl1
  have HL2 := Lib.hid hl2
  obtain ⟨vs1, rfl, ho1, _, _⟩ := hv1
  obtain ⟨vs2, rfl, ho2, _, _⟩ := hv2
  obtain ⟨g1, c1, hvs1, _, _, _, _⟩ := ho1.form
  obtain ⟨g2, c2, hvs2, _, _, _, _⟩ := ho2.form
  obtain ⟨m1, hm1⟩ : ∃ m, m = l1.length := ⟨_, rfl⟩
  obtain ⟨m2, hm2⟩ : ∃ m, m = l2.length := ⟨_, rfl⟩
  rw [← hm1] at hvs1
  rw [← hm2] at hvs2
  subst hvs1 hvs2
  clear ho1 ho2 hl1 hl2 hm1 hm2
  have C0 := Lib.hid (Below.refl (w.heap.size + 1 + 1) ((w.alloc (.cells #[.int .i64 2, .bool n1, .slice (some ⟨g1, 0, none⟩) m1 c1, .int .u64 0, .string ⟨#[]⟩, .slice none 0 0] 28)).alloc (.cells #[.int .i64 2, .bool n2, .slice (some ⟨g2, 0, none⟩) m2 c2, .int .u64 0, .string ⟨#[]⟩, .slice none 0 0] 28)))
  go_enter Try.func13, Try.ntmps13
  go_wp2_with fail
  go_region_with ((first
    | (go_at_call 26; refine (impl_whole B2 _ n2 l2 _ (HV2.out.below (boxes6 C1.out).2.2) HL2.out).mono ?_; rintro e w3 ⟨u2, rfl, hsi2, hb3⟩; have C2 := Lib.hid (C1.out.trans (hb3.mono (by have := C1.out.size; simpa using this))); obtain ⟨x2, p2, hu2⟩ := si_fin (w' := w3) hsi2; subst hu2; have HS2 := Lib.hid hsi2; have HS1b := Lib.hid (HS1.out.below hb3); have HAP := Lib.hid (si_apart HS1.out hsi2); clear hb3 hsi2)
    | (go_at_call 26; refine (impl_whole B1 _ n1 l1 _ (HV1.out.below (boxes6 C0.out.drew).2.2) HL1.out).mono ?_; rintro e w2 ⟨u1, rfl, hsi1, hb2⟩; have C1 := Lib.hid (C0.out.drew.trans (hb2.mono (by simp))); obtain ⟨x1, p1, hu1⟩ := si_fin (w' := w2) hsi1; subst hu1; have HS1 := Lib.hid hsi1; clear hb2 hsi1; obtain ⟨e0, e1, e2, e3, e4, e5, _, _, _, _, _, _⟩ := blk6 (boxes6 C1.out).2.1)
    | (go_at_call 30; refine (star_cmp _ _ x1 x2 p1 p2 (intOf2 n1 l1) (intOf2 n2 l2) 1 _ HS1b.out HS2.out HAP.out).mono ?_; rintro e w4 ⟨r, rfl, hr, hb4⟩; have HR := Lib.hid hr; have C3 := Lib.hid (C2.out.trans (hb4.mono (by have := C2.out.size; simpa using this))); clear hr hb4)))
  all_goals
    go_wp2_with fail
    refine (compared_nil (r == 0) _).mono ?_
    rintro e w5 ⟨rfl, hb5⟩
    have hbw := (boxes6 C3.out).2.2.trans (hb5.mono (boxes6 C3.out).2.2.size)
    clear hb5
    go_wp2
    go_ret2
    exact ⟨_, rfl, by rw [beq_iff_eq]; exact HR.out, hbw⟩
end Go.Proofs.Ytbdnmfabmdbamaa
