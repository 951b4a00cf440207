/- What is left of an int by an int, of the thin package. -/
import Derived.Test.YtndeolcamgnmdaaGreatDoorStarMod
import Derived.Test.YtndeolcamgnmdaaGreatDoorModBaseD
set_option linter.unusedVariables false
set_option linter.unusedSimpArgs false
set_option linter.unnecessarySimpa false
namespace Go.Proofs.YtndeolcamgnmdaaGreatDoor
open Go.RowKit
def val6 (neg : Bool) (g m c : Nat) : Array Value := #[.int .i64 2, .bool neg, .slice (some ⟨g, 0, none⟩) m c, .int .u64 0, .string ⟨#[]⟩, .slice none 0 0]
theorem three6 {w W : World} {t : TypeId} {a b c : Array Value} (h : Below (w.heap.size + 1 + 1 + 1) (((w.alloc (.cells a t)).alloc (.cells b t)).alloc (.cells c t)) W) :
    Blk W w.heap.size t a ∧ Blk W (w.heap.size + 1) t b ∧ Blk W (w.heap.size + 1 + 1) t c ∧ w.heap.size + 1 + 1 + 1 ≤ W.heap.size ∧ Below w.heap.size w W :=
  ⟨((Blk.new w t a).alloc _ |>.alloc _).below h (by omega), ((Blk.new_at (w.alloc (.cells a t)) t b (n := w.heap.size + 1) (by simp)).alloc _).below h (by omega), (Blk.new_at ((w.alloc (.cells a t)).alloc (.cells b t)) t c (n := w.heap.size + 1 + 1) (by simp)).below h (by omega), by have := h.size; simpa using this, ((((Below.refl _ w).alloc (Nat.le_refl _) _).alloc (by simp) _).alloc (by simp; omega) _).trans (h.mono (by omega))⟩
theorem star_mod (B1 B2 : Nat) (x1 x2 : Int) (p1 p2 : Option Addr) (n m : Int) (w : World) (hv1 : SI w B1 (.agg #[.int .i64 x1, .pointer p1]) n) (hv2 : SI w B2 (.agg #[.int .i64 x2, .pointer p2]) m) (hn : n.natAbs < W64 ^ 13) (hm : m.natAbs < W64 ^ 13) (hm0 : m ≠ 0) (hT : Thr w) :
    Calls Tryz.prog 19 #[.agg #[.int .i64 x1, .pointer p1], .agg #[.int .i64 x2, .pointer p2]] w (SIPost (imod n m) w) := by
  cases p1 with
  | none =>
    cases p2 with
    | none =>
      have h1 : smallB n = true ∧ x1 = n := by
        rcases hv1 with ⟨h, e⟩ | ⟨_, _, _, _, e, _⟩
        · simp only [Value.agg.injEq, Array.mk.injEq, List.cons.injEq, Value.int.injEq, and_true, true_and] at e; exact ⟨h, e⟩
        · simp at e
      have h2 : smallB m = true ∧ x2 = m := by
        rcases hv2 with ⟨h, e⟩ | ⟨_, _, _, _, e, _⟩
        · simp only [Value.agg.injEq, Array.mk.injEq, List.cons.injEq, Value.int.injEq, and_true, true_and] at e; exact ⟨h, e⟩
        · simp at e
      obtain ⟨h1, rfl⟩ := h1
      obtain ⟨h2, rfl⟩ := h2
      exact star_mod_small x1 x2 w h1 h2 hm0
    | some q2 => exact star_modC B1 B2 x1 x2 q2 n m w hv1 hv2 hn hm hm0 hT
  | some q1 =>
    cases p2 with
    | none => exact star_modB B1 B2 x1 x2 q1 n m w hv1 hv2 hn hm hm0 hT
    | some q2 => exact star_modA B1 B2 x1 x2 q1 q2 n m w hv1 hv2 hn hm hm0 hT
theorem box_after {w1 X : World} {t : TypeId} {a b : Value} (h : Below (w1.heap.size + 1) (w1.alloc (.cells #[a, b] t)) X) : X.cell? ⟨w1.heap.size, 0, none⟩ = some a ∧ X.cell? ⟨w1.heap.size, 1, none⟩ = some b ∧ w1.heap.size + 1 ≤ X.heap.size ∧ Below w1.heap.size w1 X := by
  obtain ⟨e0, e1, _⟩ := blk2 ((Blk.new w1 t #[a, b]).below h (by omega))
  exact ⟨e0, e1, by have := h.size; simpa using this, ((Below.refl _ w1).alloc (Nat.le_refl _) _).trans (h.mono (by omega))⟩
set_option maxRecDepth 100000 in
set_option maxHeartbeats 8000000 in
theorem impl_mod (B1 B2 : Nat) (v1 v2 : Value) (n1 n2 : Bool) (l1 l2 : List Nat) (w : World) (hv1 : IVal w B1 v1 n1 l1) (hv2 : IVal w B2 v2 n2 l2) (hl1 : l1.length ≤ 100) (hl2 : l2.length ≤ 100) (hm0 : intOf2 n2 l2 ≠ 0) (hT : Thr w) :
    Calls Tryz.prog 10 #[v1, v2] w (NumVPost (imod (intOf2 n1 l1) (intOf2 n2 l2)) w) := by
  have HV1 := Lib.hid hv1
  have HV2 := Lib.hid hv2
  have HL1 := Lib.hid hl1
  have HL2 := Lib.hid hl2
  have HT := Lib.hid hT
  obtain ⟨vs1, rfl, ho1, _, _⟩ := hv1
  obtain ⟨vs2, rfl, ho2, _, _⟩ := hv2
  obtain ⟨g1, c1, hvs1, _, _, _, _⟩ := ho1.form
  obtain ⟨g2, c2, hvs2, _, _, _, _⟩ := ho2.form
  have HBN : Hid ((intOf2 n1 l1).natAbs < W64 ^ 13 ∧ (intOf2 n2 l2).natAbs < W64 ^ 13) := by
    have hb : ∀ (nn : Bool) (l : List Nat), (∀ x ∈ l, x < 256) → l.length ≤ 100 → (intOf2 nn l).natAbs < W64 ^ 13 := fun nn l h hl => by
      have h1 := natOf_lt l h
      have h2 : 256 ^ l.length ≤ 256 ^ (8 * 13) := Nat.pow_le_pow_right (by omega) (by omega)
      rw [pow256_8] at h2
      have h3 : (intOf2 nn l).natAbs = natOf l := by unfold intOf2; cases nn <;> simp
      omega
    exact ⟨hb n1 l1 ho1.2.2 hl1, hb n2 l2 ho2.2.2 hl2⟩
  obtain ⟨m1, hm1⟩ : ∃ m, m = l1.length := ⟨_, rfl⟩
  obtain ⟨m2, hm2⟩ : ∃ m, m = l2.length := ⟨_, rfl⟩
  rw [← hm1] at hvs1
  rw [← hm2] at hvs2
  subst hvs1 hvs2
  obtain ⟨n, hn⟩ : ∃ n, n = intOf2 n1 l1 := ⟨_, rfl⟩
  obtain ⟨m, hm⟩ : ∃ n, n = intOf2 n2 l2 := ⟨_, rfl⟩
  rw [← hn, ← hm] at HBN ⊢
  rw [← hm] at hm0
  have HNM := Lib.hid (And.intro hn hm)
  have hsg : (sgn m == 0) = false := by
    rw [beq_eq_false_iff_ne]
    unfold sgn
    by_cases h : m < 0
    · rw [if_pos h]; decide
    · rw [if_neg h, if_neg hm0]; decide
  obtain ⟨sm, hsm⟩ : ∃ s, s = sgn m := ⟨_, rfl⟩
  rw [← hsm] at hsg
  have HSM := Lib.hid hsm
  have HM0 := Lib.hid hm0
  have C0 := Lib.hid (Below.refl (w.heap.size + 1 + 1 + 1) (((w.alloc (.cells #[.int .i64 2, .bool n1, .slice (some ⟨g1, 0, none⟩) m1 c1, .int .u64 0, .string ⟨#[]⟩, .slice none 0 0] 28)).alloc (.cells #[.int .i64 2, .bool n2, .slice (some ⟨g2, 0, none⟩) m2 c2, .int .u64 0, .string ⟨#[]⟩, .slice none 0 0] 28)).alloc (.cells #[.int .i64 0, .bool false, .slice none 0 0, .int .u64 0, .string ⟨#[]⟩, .slice none 0 0] 28)))
  clear ho1 ho2 hl1 hl2 hm1 hm2 hT hn hm hsm hm0
  go_enter Tryz.func10, Tryz.ntmps10
  go_wp2_with fail
  refine (impl_whole B2 _ n2 l2 _ (HV2.out.below (three6 C0.out).2.2.2.2) (by have := HL2.out; omega)).mono ?_
  rw [← HNM.out.2]
  rintro e w1 ⟨u2, rfl, hsi2, hb1⟩
  have C1 := Lib.hid (C0.out.trans (hb1.mono (by simp)))
  have hz1 := (three6 C1.out).2.2.2.1
  obtain ⟨x2, p2, hu2⟩ := si_fin (w' := w1) hsi2
  subst hu2
  have HS2 := Lib.hid hsi2
  have D0 := Lib.hid (Below.refl (w1.heap.size + 1) (w1.alloc (.cells #[.int .i64 x2, .pointer p2] 48)))
  clear hb1 hsi2
  go_wp2_with fail
  refine (star_sign _ _ m _ (HS2.out.below (box_after D0.out).2.2.2)).mono ?_
  rw [show SgnPost m (w1.alloc (.cells #[.int .i64 x2, .pointer p2] 48)) = fun e w' => e = .returned (.int .i64 sm) ∧ Below (w1.alloc (.cells #[.int .i64 x2, .pointer p2] 48)).heap.size (w1.alloc (.cells #[.int .i64 x2, .pointer p2] 48)) w' from by rw [HSM.out]; rfl]
  rintro e w2 ⟨rfl, hb2⟩
  have D2 := Lib.hid (D0.out.trans (hb2.mono (by simp)))
  have C2 := Lib.hid (C1.out.trans ((box_after D2.out).2.2.2.mono hz1))
  obtain ⟨k0, k1, k2, k3, k4, k5, _⟩ := blk6 (three6 C2.out).1
  obtain ⟨q0, q1, hz2, _⟩ := box_after D2.out
  clear hb2
  have tok1 : True := trivial
  go_wp2_with fail
  go_region_with ((first
    | (go_at_call 16; have _t := tok1; refine (impl_whole B1 _ n1 l1 _ (HV1.out.below (three6 C2.out.drew).2.2.2.2) (by have := HL1.out; omega)).mono ?_; rw [← HNM.out.1]; rintro e w3 ⟨u1, rfl, hsi1, hb3⟩; have D3 := Lib.hid (D2.out.drew.trans (hb3.mono hz2)); have C3 := Lib.hid (C2.out.drew.trans (hb3.mono (three6 C2.out).2.2.2.1)); obtain ⟨x1, p1, hu1⟩ := si_fin (w' := w3) hsi1; subst hu1; have HS1 := Lib.hid hsi1; have HS2b := Lib.hid (HS2.out.below (box_after D3.out).2.2.2); obtain ⟨r0, r1, hz3, _⟩ := box_after D3.out; clear hb3 hsi1 _t tok1)
    | (go_at_call 19; refine (star_mod _ _ x1 x2 p1 p2 n m _ HS1.out HS2b.out HBN.out.1 HBN.out.2 HM0.out (HT.out.below (three6 C3.out).2.2.2.2 HT.out.lt)).mono ?_; rintro e w4 ⟨u4, rfl, hsi4, hb4⟩; have C4 := Lib.hid (C3.out.trans (hb4.mono (three6 C3.out).2.2.2.1)); obtain ⟨x4, p4, hu4⟩ := si_fin (w' := w4) hsi4; subst hu4; have HS4 := Lib.hid hsi4; clear hb4 hsi4)
    | (go_at_call 18; refine (impl_number _ x4 p4 _ _ HS4.out).mono ?_; rintro e w5 ⟨v5, neg5, l5, rfl, ⟨g5, o5, c5, rfl, hbs5, hg5, hh5, hn5⟩, hval5, hb5⟩; obtain ⟨q, hq⟩ : ∃ q, q = l5.length := ⟨_, rfl⟩; rw [← hq] at hbs5 ⊢; have HQ := Lib.hid hq; have HBS5 := Lib.hid hbs5; have HG5 := Lib.hid hg5; have HH5 := Lib.hid hh5; have HN5 := Lib.hid hn5; have HVAL5 := Lib.hid hval5; have C5 := Lib.hid (C4.out.trans (hb5.mono (three6 C4.out).2.2.2.1)); have HZ4 := Lib.hid ((three6 C4.out).2.2.2.1); obtain ⟨e0, e1, e2, e3, e4, e5, f0, f1, f2, f3, f4, f5⟩ := blk6 (three6 C5.out).2.2.1; clear hq hbs5 hg5 hh5 hn5 hval5 hb5)))
  all_goals
    go_wp2
    refine bodyPost_ret (v := .agg #[.int .i64 2, .bool neg5, .slice (some ⟨g5, o5, none⟩) q c5, .int .u64 0, .string ⟨#[]⟩, .slice none 0 0]) (by simp [results, Tryz.results10, go_sem, e0, e1, e2, e3, e4, e5]) rfl ?_
    have hO := six_set w5 (w.heap.size + 1 + 1) (.int .i64 2) (.bool neg5) (.slice (some ⟨g5, o5, none⟩) q c5) (.int .u64 0) (.string ⟨#[]⟩) (.slice none 0 0)
    have hbw := (three6 C5.out).2.2.2.2
    have hz4 := HZ4.out
    refine ⟨_, neg5, l5, rfl, ⟨g5, o5, c5, by rw [HQ.out], ?_, by have := HG5.out; omega, HH5.out, HN5.out⟩, HVAL5.out, hbw.trans (hO.to_below (B := w.heap.size) hbw.size (fun k _ e => by omega))⟩
    rw [← HQ.out]
    exact bsl_only HBS5.out hO (fun p e => by injection e with e; subst e; have := HG5.out; show g5 ≠ _; omega)
end Go.Proofs.YtndeolcamgnmdaaGreatDoor
