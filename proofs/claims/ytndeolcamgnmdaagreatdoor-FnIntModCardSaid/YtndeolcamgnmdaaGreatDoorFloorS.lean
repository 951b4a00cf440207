/- The reference's division to the floor, of any signs: what is left. -/
import Derived.Test.YtndeolcamgnmdaaGreatDoorPosOps
set_option linter.unusedVariables false
set_option linter.unusedSimpArgs false
set_option linter.unnecessarySimpa false
namespace Go.Proofs.YtndeolcamgnmdaaGreatDoor
open Go.RowKit
attribute [local go_sem ↓] Go.wp_at_zero Go.wp_at_succ
/-- What the floor leaves of A by B, of these signs. -/
def flr (xn yn : Bool) (A B : Nat) : Int := if xn = yn then intOf2 yn [] + (if yn then -((A % B : Nat) : Int) else ((A % B : Nat) : Int)) else if A % B = 0 then 0 else (if yn then -((B - A % B : Nat) : Int) else ((B - A % B : Nat) : Int))
theorem flr_same (s : Bool) (A B : Nat) : flr s s A B = if s then -((A % B : Nat) : Int) else ((A % B : Nat) : Int) := by
  cases s <;> simp [flr, intOf2, natOf]
theorem flr_zero (s : Bool) (A B : Nat) (h : A % B = 0) : flr (!s) s A B = 0 := by
  cases s <;> simp [flr, h]
theorem flr_apart (s : Bool) (A B : Nat) (h : A % B ≠ 0) : flr (!s) s A B = if s then -((B - A % B : Nat) : Int) else ((B - A % B : Nat) : Int) := by
  cases s <;> simp [flr, h]
/-- An integer of the reference, or its zero value. -/
def SInt0 (w : World) (B : Nat) (v : Value) (n : Int) : Prop := (∃ neg l, SInt w B v neg l ∧ intOf2 neg l = n) ∨ (v = .agg #[.bool false, .slice none 0 0] ∧ n = 0)
def FlrPost (n : Int) (w : World) (e : Ending) (w' : World) : Prop := ∃ b1 a1 m1 c1 u2, e = .returned (.tuple #[.agg #[.bool b1, .slice a1 m1 c1], u2]) ∧ SInt0 w' w.heap.size u2 n ∧ Below w.heap.size w w'
theorem intOf2_of (s : Bool) (l : List Nat) : intOf2 (negOf s l) (strip l) = if s then -((natOf l : Nat) : Int) else ((natOf l : Nat) : Int) := by
  unfold intOf2 negOf
  rw [natOf_strip]
  cases s with
  | false => simp
  | true =>
    by_cases h : strip l = []
    · have h2 := natOf_strip l
      rw [h] at h2
      simp [h, ← h2, natOf]
    · simp [h]
theorem box4_cc {w W : World} {t : TypeId} {a b c d : Value} (h : Below (w.heap.size + 1 + 1 + 1 + 1) (box4 w t a b c d) W) : W.cell? ⟨w.heap.size + 1, 0, none⟩ = some c ∧ W.cell? ⟨w.heap.size + 1, 1, none⟩ = some d := by
  obtain ⟨_, h2, _⟩ := box4_at h
  exact ⟨(blk2 h2).1, (blk2 h2).2.1⟩
theorem floor_fin2 {w W : World} {n : Int} {a1 : Option Addr} {m1 c1 : Nat} {u2 : Value} {b1 b2 : Bool} (h2 : SInt0 W (w.heap.size + 1 + 1 + 1 + 1) (.agg #[.bool b2, u2]) n) (hb : Below w.heap.size w W) :
    FlrPost n w (.returned (.tuple #[.agg #[.bool b1, .slice a1 m1 c1], .agg #[.bool b2, u2]])) ((((W.setCell ⟨w.heap.size + 1 + 1, 0, none⟩ (.bool b1)).setCell ⟨w.heap.size + 1 + 1, 1, none⟩ (.slice a1 m1 c1)).setCell ⟨w.heap.size + 1 + 1 + 1, 0, none⟩ (.bool b2)).setCell ⟨w.heap.size + 1 + 1 + 1, 1, none⟩ u2) := by
  have ho := four_set W (w.heap.size + 1 + 1) (w.heap.size + 1 + 1 + 1) (.bool b1) (.slice a1 m1 c1) (.bool b2) u2
  refine ⟨_, _, _, _, _, rfl, ?_, hb.trans (ho.to_below hb.size (fun k _ e => by omega))⟩
  rcases h2 with ⟨neg, l, h, hn⟩ | h
  · exact .inl ⟨neg, l, (h.only ho (fun g hg e => by omega)).base (by omega), hn⟩
  · exact .inr h
set_option maxRecDepth 100000 in
set_option maxHeartbeats 4000000 in
theorem floor_neg (B1 B2 : Nat) (v1 v2 : Value) (l1 l2 : List Nat) (w : World) (hv1 : SInt w B1 v1 true l1) (hv2 : SInt w B2 v2 true l2) (hl1 : l1.length ≤ 1000) (hl2 : l2.length ≤ 1000) (h0 : 0 < natOf l2) :
    Calls Tryz.prog 8 #[v1, v2] w (FlrPost (flr true true (natOf l1) (natOf l2)) w) := by
  obtain ⟨g1, c1, rfl⟩ := hv1.lit2
  obtain ⟨g2, c2, rfl⟩ := hv2.lit2
  obtain ⟨m1, hm1⟩ : ∃ m, m = l1.length := ⟨_, rfl⟩
  obtain ⟨m2, hm2⟩ : ∃ m, m = l2.length := ⟨_, rfl⟩
  obtain ⟨_, e1, ho1, _, _⟩ := hv1
  obtain ⟨_, e2, ho2, hh2, _⟩ := hv2
  simp only [Value.agg.injEq, Array.mk.injEq, List.cons.injEq, and_true, true_and] at e1 e2
  subst e1 e2
  rw [← hm1] at ho1 ⊢
  rw [← hm2] at ho2 ⊢
  have C0 := Lib.hid (Below.refl (w.heap.size + 1 + 1 + 1 + 1) (box4 w 24 (.bool true) (.slice (some ⟨g1, 0, none⟩) m1 c1) (.bool true) (.slice (some ⟨g2, 0, none⟩) m2 c2)))
  have HSP := Lib.hid (spec_split B1 B2 g1 c1 g2 c2 m1 m2 l1 l2 _ (ho1.below (box4_at C0.out).2.2.2.2.2) (ho2.below (box4_at C0.out).2.2.2.2.2) (by omega) (by omega) hh2 h0)
  have hA : natOf l1 < 256 ^ m1 := by rw [hm1]; exact natOf_lt l1 ho1.2.2
  have hBl : natOf l2 < 256 ^ m2 := by rw [hm2]; exact natOf_lt l2 ho2.2.2
  have HAB := Lib.hid (And.intro hA (And.intro hBl h0))
  have hm1b : m1 ≤ 1000 := by omega
  have hm2b : m2 ≤ 1000 := by omega
  clear ho1 ho2 hh2 h0 hm1 hm2 hl1 hl2 hA hBl
  unfold box4 at HSP
  go_enter Tryz.func8, Tryz.ntmps8
  go_wp2_with fail
  refine HSP.out.mono ?_
  rintro e w2 ⟨qv, rv, ql, rl, rfl, hq, hr, hqh, hrh, hqn, hrn, hb2⟩
  have C1 := Lib.hid (C0.out.trans (hb2.mono (by simp)))
  have HS4 := Lib.hid ((box4_at C1.out).2.2.2.2.1)
  obtain ⟨a0, a1, _, _⟩ := blk2 (box4_at C1.out).1
  obtain ⟨b0, b1, _, _⟩ := blk2 (box4_at C1.out).2.1
  have hqlen : ql.length ≤ m1 := head_nat hqh (by rw [hqn]; exact Nat.lt_of_le_of_lt (Nat.div_le_self _ _) HAB.out.1)
  have hrlen : rl.length ≤ m2 := head_nat hrh (by rw [hrn]; exact Nat.lt_trans (Nat.mod_lt _ HAB.out.2.2) HAB.out.2.1)
  obtain ⟨gq, cq, hqv, _, _, _, _⟩ := hq.form
  obtain ⟨gr, cr, hrv, _, _, _, _⟩ := hr.form
  obtain ⟨nq, hnq⟩ : ∃ n, n = ql.length := ⟨_, rfl⟩
  obtain ⟨nr, hnr⟩ : ∃ n, n = rl.length := ⟨_, rfl⟩
  rw [← hnq] at hqv
  rw [← hnr] at hrv
  subst hqv hrv
  have OFQ : Hid (∀ W, Below w2.heap.size w2 W → Calls Tryz.prog 11 #[.bool false, .slice (some ⟨gq, 0, none⟩) nq cq] W (OfPost false ql W)) := fun W h => of_any false _ _ _ ql W ((hq.below h).bsl) (by omega)
  have OFR : Hid (∀ W, Below w2.heap.size w2 W → Calls Tryz.prog 11 #[.bool true, .slice (some ⟨gr, 0, none⟩) nr cr] W (OfPost true rl W)) := fun W h => of_any true _ _ _ rl W ((hr.below h).bsl) (by omega)
  have HN := Lib.hid (And.intro hqn hrn)
  clear hq hr hqh hrh hqn hrn hb2 hnq hnr hqlen hrlen
  go_wp2_with fail
  have C2 := Lib.hid ((Below.refl w2.heap.size w2).drew)
  go_region_held3 (fun W => W.cell? ⟨w.heap.size + 1, 0, none⟩ = some (.bool true))
    (first | (with_reducible exact box4_c (C1.out.trans (C4.out.mono HS4.out))) | (with_reducible exact box4_c1 (C1.out.trans (C4.out.mono HS4.out)) _ _) | (with_reducible exact box4_c2 (C1.out.trans (C4.out.mono HS4.out)) _ _ _ _) | (with_reducible exact box4_c (C1.out.trans (C3.out.mono HS4.out))) | (with_reducible exact box4_c (C1.out.trans (C2.out.mono HS4.out))) | (with_reducible exact box4_c C1.out) | go_keep)
    (first
    | (go_at_call 11; (with_reducible refine (OFR.out _ C3.out).mono ?_); rintro e wC4 ⟨vq, rfl, hsq, hbq⟩; have SR := Lib.hid (hsq.base (Nat.le_trans HS4.out C3.out.size)); have C4 := Lib.hid (C3.out.trans (hbq.mono C3.out.size)); obtain ⟨gr2, cr2, hvq⟩ := hsq.lit2; obtain ⟨rr, hrq⟩ : ∃ r, r = (strip rl).length := ⟨_, rfl⟩; rw [← hrq] at hvq; rw [hvq] at SR; have SR2 := Lib.hid (Or.inl ⟨_, _, SR.out, rfl⟩ : SInt0 _ _ _ (intOf2 (negOf true rl) (strip rl))); obtain ⟨nb, hnb⟩ : ∃ b, b = negOf true rl := ⟨_, rfl⟩; rw [← hnb] at hvq SR2; subst hvq; have HNB := Lib.hid hnb; obtain ⟨k0, k1, f0, f1⟩ := blk2 (box4_at (C1.out.trans (C4.out.mono HS4.out))).2.2.1; obtain ⟨j0, j1, p0, p1⟩ := blk2 (box4_at (C1.out.trans (C4.out.mono HS4.out))).2.2.2.1; clear hsq hbq hrq hnb)
    | (go_at_call 11; (with_reducible refine (OFQ.out _ C2.out).mono ?_); rintro e wC3 ⟨vq, rfl, hsq, hbq⟩; have C3 := Lib.hid (C2.out.trans (hbq.mono C2.out.size)); obtain ⟨gq2, cq2, hvq⟩ := hsq.lit2; obtain ⟨rq, hrq⟩ : ∃ r, r = (strip ql).length := ⟨_, rfl⟩; rw [← hrq, show negOf false ql = false from rfl] at hvq; subst hvq; clear hsq hbq hrq))
  all_goals
    go_wp2
    refine bodyPost_ret (v := .tuple #[.agg #[.bool false, .slice (some ⟨gq2, 0, none⟩) rq cq2], .agg #[.bool nb, .slice (some ⟨gr2, 0, none⟩) rr cr2]]) (by simp [results, Tryz.results8, go_sem, k0, k1, j0, j1]) rfl ?_
    have hval : flr true true (natOf l1) (natOf l2) = intOf2 (negOf true rl) (strip rl) := by rw [intOf2_of, flr_same, HN.out.2]
    rw [hval, ← HNB.out]
    have h := SR2.out
    exact floor_fin2 h (box4_at (C1.out.trans (C4.out.mono HS4.out))).2.2.2.2.2
end Go.Proofs.YtndeolcamgnmdaaGreatDoor
