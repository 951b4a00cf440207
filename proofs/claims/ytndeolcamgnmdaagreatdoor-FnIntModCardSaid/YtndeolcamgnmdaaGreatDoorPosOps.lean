/- The reference's powers of 2, quotients and shifts of integers from 0 on. -/
import Derived.Test.YtndeolcamgnmdaaGreatDoorBitDiv
set_option linter.unusedVariables false
set_option linter.unusedSimpArgs false
set_option linter.unnecessarySimpa false
namespace Go.Proofs.YtndeolcamgnmdaaGreatDoor
open Go.RowKit
attribute [local go_sem ↓] Go.wp_at_zero Go.wp_at_succ
def PosPost (n : Nat) (w : World) (e : Ending) (w' : World) : Prop := ∃ v l, e = .returned v ∧ SInt w' w.heap.size v false l ∧ natOf l = n ∧ Below w.heap.size w w'
theorem NumPost.pos {n : Nat} {w w' : World} {e : Ending} (h : NumPost (n : Int) w e w') : PosPost n w e w' := by
  obtain ⟨v, neg, l, h1, h2, h3, h4, h5⟩ := h
  cases neg with
  | false => exact ⟨v, l, h1, h2, by (have : (natOf l : Int) = n := by simpa [intOf2] using h4); omega, h5⟩
  | true =>
    exfalso
    obtain ⟨_, _, _, hh, hn⟩ := h2
    have h0 : natOf l ≠ 0 := fun h => hn rfl ((natOf_eq_zero hh).1 h)
    simp [intOf2] at h4
    omega
theorem pow8 (k : Nat) (hk : k < 8) : (2 : Int) ^ k % 256 = ((2 ^ k : Nat) : Int) ∧ 2 ^ k < 256 := by
  have hall : ∀ k : Fin 8, (2 : Int) ^ k.val % 256 = ((2 ^ k.val : Nat) : Int) ∧ 2 ^ k.val < 256 := by decide
  exact hall ⟨k, hk⟩
theorem pow_split (k n : Nat) (hn : n = k / 8 + 1) : natOf ((List.replicate n 0).set 0 (2 ^ (k % 8))) = 2 ^ k := by
  have h := natOf_set (List.replicate n 0) 0 (2 ^ (k % 8)) (by simp; omega) (by simp)
  rw [h, natOf_zeros, List.length_replicate, Nat.zero_add, show n - 1 - 0 = k / 8 by omega]
  rw [show (256 : Nat) = 2 ^ 8 by rfl, ← Nat.pow_mul, ← Nat.pow_add]
  congr 1
  omega
/-- Four boxes, made one behind the other. -/
def box4 (w : World) (t : TypeId) (a b c d : Value) : World := (((w.alloc (.cells #[a, b] t)).alloc (.cells #[c, d] t)).alloc (.cells #[.bool false, .slice none 0 0] t)).alloc (.cells #[.bool false, .slice none 0 0] t)
theorem box4_at {w W : World} {t : TypeId} {a b c d : Value} (h : Below (w.heap.size + 1 + 1 + 1 + 1) (box4 w t a b c d) W) :
    Blk W w.heap.size t #[a, b] ∧ Blk W (w.heap.size + 1) t #[c, d] ∧ Blk W (w.heap.size + 1 + 1) t #[.bool false, .slice none 0 0] ∧ Blk W (w.heap.size + 1 + 1 + 1) t #[.bool false, .slice none 0 0] ∧ w.heap.size + 1 + 1 + 1 + 1 ≤ W.heap.size ∧ Below w.heap.size w W := by
  unfold box4 at h
  have h3 : Below (w.heap.size + 1 + 1 + 1) (((w.alloc (.cells #[a, b] t)).alloc (.cells #[c, d] t)).alloc (.cells #[.bool false, .slice none 0 0] t)) W := ((Below.refl _ _).alloc (by simp) _).trans (h.mono (by omega))
  obtain ⟨k1, k2, k3, k4, k5⟩ := three_alloc h3
  exact ⟨k1, k2, k3, (Blk.new_at (((w.alloc (.cells #[a, b] t)).alloc (.cells #[c, d] t)).alloc (.cells #[.bool false, .slice none 0 0] t)) t #[.bool false, .slice none 0 0] (n := w.heap.size + 1 + 1 + 1) (by simp)).below h (by omega), by have := h.size; simpa using this, k5⟩
theorem box4_c {w W : World} {t : TypeId} {a b c d : Value} (h : Below (w.heap.size + 1 + 1 + 1 + 1) (box4 w t a b c d) W) : W.cell? ⟨w.heap.size + 1, 0, none⟩ = some c := by
  obtain ⟨_, h2, _⟩ := box4_at h
  exact (blk2 h2).1
theorem box4_c1 {w W : World} {t : TypeId} {a b c d : Value} (h : Below (w.heap.size + 1 + 1 + 1 + 1) (box4 w t a b c d) W) (u u' : Value) : ((W.setCell ⟨w.heap.size + 1 + 1, 0, none⟩ u).setCell ⟨w.heap.size + 1 + 1, 1, none⟩ u').cell? ⟨w.heap.size + 1, 0, none⟩ = some c := by
  obtain ⟨_, h2, _⟩ := box4_at h
  exact (blk2 ((h2.far (p := ⟨w.heap.size + 1 + 1, 0, none⟩) (by simp) u).far (p := ⟨w.heap.size + 1 + 1, 1, none⟩) (by simp) u')).1
theorem box4_c2 {w W : World} {t : TypeId} {a b c d : Value} (h : Below (w.heap.size + 1 + 1 + 1 + 1) (box4 w t a b c d) W) (u u' u2 u3 : Value) : ((((W.setCell ⟨w.heap.size + 1 + 1, 0, none⟩ u).setCell ⟨w.heap.size + 1 + 1, 1, none⟩ u').setCell ⟨w.heap.size + 1 + 1 + 1, 0, none⟩ u2).setCell ⟨w.heap.size + 1 + 1 + 1, 1, none⟩ u3).cell? ⟨w.heap.size + 1, 0, none⟩ = some c := by
  obtain ⟨_, h2, _⟩ := box4_at h
  exact (blk2 ((((h2.far (p := ⟨w.heap.size + 1 + 1, 0, none⟩) (by simp) u).far (p := ⟨w.heap.size + 1 + 1, 1, none⟩) (by simp) u').far (p := ⟨w.heap.size + 1 + 1 + 1, 0, none⟩) (by simp) u2).far (p := ⟨w.heap.size + 1 + 1 + 1, 1, none⟩) (by simp) u3)).1
def FloorPost (A Bn : Nat) (w : World) (e : Ending) (w' : World) : Prop :=
  ∃ u1 u2 k1 k2, e = .returned (.tuple #[u1, u2]) ∧ SInt w' w.heap.size u1 false k1 ∧ SInt w' w.heap.size u2 false k2 ∧ natOf k1 = A / Bn ∧ natOf k2 = A % Bn ∧ Below w.heap.size w w'
theorem four_set (w : World) (b c : Nat) (u0 u1 u2 u3 : Value) : Only (fun k => k = b ∨ k = c) w ((((w.setCell ⟨b, 0, none⟩ u0).setCell ⟨b, 1, none⟩ u1).setCell ⟨c, 0, none⟩ u2).setCell ⟨c, 1, none⟩ u3) :=
  ((two_set w b u0 u1).mono (fun _ _ h => .inl h)).trans ((two_set _ c u2 u3).mono (fun _ _ h => .inr h))
theorem floor_fin {w W : World} {A Bn : Nat} {u1 u2 : Value} {k1 k2 : List Nat} (h1 : SInt W (w.heap.size + 1 + 1 + 1 + 1) (.agg #[.bool false, u1]) false k1) (h2 : SInt W (w.heap.size + 1 + 1 + 1 + 1) (.agg #[.bool false, u2]) false k2) (n1 : natOf k1 = A / Bn) (n2 : natOf k2 = A % Bn) (hb : Below w.heap.size w W) :
    FloorPost A Bn w (.returned (.tuple #[.agg #[.bool false, u1], .agg #[.bool false, u2]])) ((((W.setCell ⟨w.heap.size + 1 + 1, 0, none⟩ (.bool false)).setCell ⟨w.heap.size + 1 + 1, 1, none⟩ u1).setCell ⟨w.heap.size + 1 + 1 + 1, 0, none⟩ (.bool false)).setCell ⟨w.heap.size + 1 + 1 + 1, 1, none⟩ u2) := by
  have ho := four_set W (w.heap.size + 1 + 1) (w.heap.size + 1 + 1 + 1) (.bool false) u1 (.bool false) u2
  exact ⟨_, _, k1, k2, rfl, (h1.only ho (fun g hg e => by omega)).base (by omega), (h2.only ho (fun g hg e => by omega)).base (by omega), n1, n2, hb.trans (ho.to_below hb.size (fun k _ e => by omega))⟩
set_option maxRecDepth 100000 in
set_option maxHeartbeats 4000000 in
theorem spec_floor_pos (B1 B2 : Nat) (v1 v2 : Value) (l1 l2 : List Nat) (w : World) (hv1 : SInt w B1 v1 false l1) (hv2 : SInt w B2 v2 false l2) (hl1 : l1.length ≤ 1000) (hl2 : l2.length ≤ 1000) (h0 : 0 < natOf l2) :
    Calls Tryz.prog 8 #[v1, v2] w (FloorPost (natOf l1) (natOf l2) w) := by
  obtain ⟨g1, c1, rfl⟩ := hv1.lit2
  obtain ⟨g2, c2, rfl⟩ := hv2.lit2
  obtain ⟨m1, hm1⟩ : ∃ m, m = l1.length := ⟨_, rfl⟩
  obtain ⟨m2, hm2⟩ : ∃ m, m = l2.length := ⟨_, rfl⟩
  obtain ⟨_, e1, ho1, _, _⟩ := hv1
  obtain ⟨_, e2, ho2, hh2, _⟩ := hv2
  simp only [Value.agg.injEq, Array.mk.injEq, List.cons.injEq, and_true, true_and] at e1 e2
  subst e1 e2
  rw [← hm1] at ho1 ⊢
  rw [← hm2] at ho2 ⊢
  have C0 := Lib.hid (Below.refl (w.heap.size + 1 + 1 + 1 + 1) (box4 w 24 (.bool false) (.slice (some ⟨g1, 0, none⟩) m1 c1) (.bool false) (.slice (some ⟨g2, 0, none⟩) m2 c2)))
  have HSP := Lib.hid (spec_split B1 B2 g1 c1 g2 c2 m1 m2 l1 l2 _ (ho1.below (box4_at C0.out).2.2.2.2.2) (ho2.below (box4_at C0.out).2.2.2.2.2) (by omega) (by omega) hh2 h0)
  have hA : natOf l1 < 256 ^ m1 := by rw [hm1]; exact natOf_lt l1 ho1.2.2
  have hBl : natOf l2 < 256 ^ m2 := by rw [hm2]; exact natOf_lt l2 ho2.2.2
  have HAB := Lib.hid (And.intro hA (And.intro hBl h0))
  have hm1b : m1 ≤ 1000 := by omega
  have hm2b : m2 ≤ 1000 := by omega
  clear ho1 ho2 hh2 h0 hm1 hm2 hl1 hl2 hA hBl
  unfold box4 at HSP
  go_enter Tryz.func8, Tryz.ntmps8
  go_wp2_with fail
  refine HSP.out.mono ?_
  rintro e w2 ⟨qv, rv, ql, rl, rfl, hq, hr, hqh, hrh, hqn, hrn, hb2⟩
  have C1 := Lib.hid (C0.out.trans (hb2.mono (by simp)))
  have HS4 := Lib.hid ((box4_at C1.out).2.2.2.2.1)
  obtain ⟨a0, a1, _, _⟩ := blk2 (box4_at C1.out).1
  obtain ⟨b0, b1, _, _⟩ := blk2 (box4_at C1.out).2.1
  have hqlen : ql.length ≤ m1 := head_nat hqh (by rw [hqn]; exact Nat.lt_of_le_of_lt (Nat.div_le_self _ _) HAB.out.1)
  have hrlen : rl.length ≤ m2 := head_nat hrh (by rw [hrn]; exact Nat.lt_trans (Nat.mod_lt _ HAB.out.2.2) HAB.out.2.1)
  obtain ⟨gq, cq, hqv, _, _, _, _⟩ := hq.form
  obtain ⟨gr, cr, hrv, _, _, _, _⟩ := hr.form
  obtain ⟨nq, hnq⟩ : ∃ n, n = ql.length := ⟨_, rfl⟩
  obtain ⟨nr, hnr⟩ : ∃ n, n = rl.length := ⟨_, rfl⟩
  rw [← hnq] at hqv
  rw [← hnr] at hrv
  subst hqv hrv
  have OFQ : Hid (∀ W, Below w2.heap.size w2 W → Calls Tryz.prog 11 #[.bool false, .slice (some ⟨gq, 0, none⟩) nq cq] W (OfPost false ql W)) := fun W h => of_any false _ _ _ ql W ((hq.below h).bsl) (by omega)
  have OFR : Hid (∀ W, Below w2.heap.size w2 W → Calls Tryz.prog 11 #[.bool false, .slice (some ⟨gr, 0, none⟩) nr cr] W (OfPost false rl W)) := fun W h => of_any false _ _ _ rl W ((hr.below h).bsl) (by omega)
  have HN := Lib.hid (And.intro hqn hrn)
  clear hq hr hqh hrh hqn hrn hb2 hnq hnr hqlen hrlen
  go_wp2_with fail
  have C2 := Lib.hid ((Below.refl w2.heap.size w2).drew)
  go_region_held3 (fun W => W.cell? ⟨w.heap.size + 1, 0, none⟩ = some (.bool false))
    (first | (with_reducible exact box4_c (C1.out.trans (C4.out.mono HS4.out))) | (with_reducible exact box4_c1 (C1.out.trans (C4.out.mono HS4.out)) _ _) | (with_reducible exact box4_c2 (C1.out.trans (C4.out.mono HS4.out)) _ _ _ _) | (with_reducible exact box4_c (C1.out.trans (C3.out.mono HS4.out))) | (with_reducible exact box4_c (C1.out.trans (C2.out.mono HS4.out))) | (with_reducible exact box4_c C1.out) | go_keep)
    (first
    | (go_at_call 11; (with_reducible refine (OFQ.out _ C3.out).mono ?_); rintro e wC4 ⟨vq, rfl, hsq, hbq⟩; have SQ := Lib.hid (hsq.base (Nat.le_trans HS4.out C3.out.size)); have SR2 := Lib.hid (SR.out.below hbq); have C4 := Lib.hid (C3.out.trans (hbq.mono C3.out.size)); obtain ⟨gq2, cq2, hvq⟩ := hsq.lit2; obtain ⟨rq, hrq⟩ : ∃ r, r = (strip ql).length := ⟨_, rfl⟩; rw [← hrq, show negOf false ql = false from rfl] at hvq; rw [show negOf false ql = false from rfl, hvq] at SQ; subst hvq; have SQ2 := Lib.hid SQ.out; obtain ⟨k0, k1, f0, f1⟩ := blk2 (box4_at (C1.out.trans (C4.out.mono HS4.out))).2.2.1; obtain ⟨j0, j1, p0, p1⟩ := blk2 (box4_at (C1.out.trans (C4.out.mono HS4.out))).2.2.2.1; clear hsq hbq hrq)
    | (go_at_call 11; (with_reducible refine (OFR.out _ C3.out).mono ?_); rintro e wC4 ⟨vq, rfl, hsq, hbq⟩; have SR := Lib.hid (hsq.base (Nat.le_trans HS4.out C3.out.size)); have SQ2 := Lib.hid (SQ.out.below hbq); have C4 := Lib.hid (C3.out.trans (hbq.mono C3.out.size)); obtain ⟨gr2, cr2, hvq⟩ := hsq.lit2; obtain ⟨rr, hrq⟩ : ∃ r, r = (strip rl).length := ⟨_, rfl⟩; rw [← hrq, show negOf false rl = false from rfl] at hvq; rw [show negOf false rl = false from rfl, hvq] at SR; subst hvq; have SR2 := Lib.hid SR.out; obtain ⟨k0, k1, f0, f1⟩ := blk2 (box4_at (C1.out.trans (C4.out.mono HS4.out))).2.2.1; obtain ⟨j0, j1, p0, p1⟩ := blk2 (box4_at (C1.out.trans (C4.out.mono HS4.out))).2.2.2.1; clear hsq hbq hrq)
    | (go_at_call 11; (with_reducible refine (OFQ.out _ C2.out).mono ?_); rintro e wC3 ⟨vq, rfl, hsq, hbq⟩; have SQ := Lib.hid (hsq.base (Nat.le_trans HS4.out C2.out.size)); have C3 := Lib.hid (C2.out.trans (hbq.mono C2.out.size)); obtain ⟨gq2, cq2, hvq⟩ := hsq.lit2; obtain ⟨rq, hrq⟩ : ∃ r, r = (strip ql).length := ⟨_, rfl⟩; rw [← hrq, show negOf false ql = false from rfl] at hvq; rw [show negOf false ql = false from rfl, hvq] at SQ; subst hvq; clear hsq hbq hrq)
    | (go_at_call 11; (with_reducible refine (OFR.out _ C2.out).mono ?_); rintro e wC3 ⟨vq, rfl, hsq, hbq⟩; have SR := Lib.hid (hsq.base (Nat.le_trans HS4.out C2.out.size)); have C3 := Lib.hid (C2.out.trans (hbq.mono C2.out.size)); obtain ⟨gr2, cr2, hvq⟩ := hsq.lit2; obtain ⟨rr, hrq⟩ : ∃ r, r = (strip rl).length := ⟨_, rfl⟩; rw [← hrq, show negOf false rl = false from rfl] at hvq; rw [show negOf false rl = false from rfl, hvq] at SR; subst hvq; clear hsq hbq hrq))
  all_goals
    go_wp2
    refine bodyPost_ret (v := .tuple #[.agg #[.bool false, .slice (some ⟨gq2, 0, none⟩) rq cq2], .agg #[.bool false, .slice (some ⟨gr2, 0, none⟩) rr cr2]]) (by simp [results, Tryz.results8, go_sem, k0, k1, j0, j1]) rfl (floor_fin SQ2.out SR2.out (by rw [natOf_strip]; exact HN.out.1) (by rw [natOf_strip]; exact HN.out.2) (box4_at (C1.out.trans (C4.out.mono HS4.out))).2.2.2.2.2)
end Go.Proofs.YtndeolcamgnmdaaGreatDoor
