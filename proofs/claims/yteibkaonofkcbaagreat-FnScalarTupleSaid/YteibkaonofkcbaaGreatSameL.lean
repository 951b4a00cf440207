/- The reference's SameList at equal rows. -/
import Derived.Test.YteibkaonofkcbaaGreatSame
set_option linter.unusedSimpArgs false
set_option linter.unusedVariables false
namespace Go.Proofs.YteibkaonofkcbaaGreat
open Go.RowKit
attribute [local go_sem ↓] Go.wp_at_zero Go.wp_at_succ
/-- An element of a row: its six cells. -/
theorem RowR.at {w : World} {B : Nat} {a : Option Addr} {n c : Nat} {ps : List (Value × Sx)} (h : RowR w B (.slice a n c) ps) (i : Nat) (hi : i < ps.length) :
    ∃ x k neg aa m cc b tx, a = some x ∧ (ps[i]'hi).1 = pv k neg aa m cc b tx none 0 0 ∧ (w.cell? (x.add (i * 6)) = some (.int .i64 k) ∧ w.cell? ((x.add (i * 6)).add 1) = some (.bool neg) ∧ w.cell? ((x.add (i * 6)).add 2) = some (.slice aa m cc) ∧ w.cell? ((x.add (i * 6)).add 3) = some (.int .u64 b) ∧ w.cell? ((x.add (i * 6)).add 4) = some (.string tx) ∧ w.cell? ((x.add (i * 6)).add 5) = some (.slice none 0 0)) := by
  have hr := h.2 _ (List.getElem_mem hi)
  obtain ⟨neg, aa, m, cc, b, tx, he⟩ := hr.form
  rcases h.1.2 with ⟨hv, h0⟩ | ⟨g, cap, cur, hv, hb, hh, h1, h2, h3, _⟩
  · injection hv with e1 e2 e3
    omega
  · injection hv with e1 e2 e3
    subst e1
    have key : ∀ j u, (c6 (ps[i]'hi).1)[j]? = some u → w.cell? (((⟨g, 0, none⟩ : Addr).add (i * 6)).add j) = some u := fun j u hu => by
      have := h.1.cells (g := g) rfl (i * 6 + j) u (by rw [flat_six (fun p hp => (h.2 p hp).six) i j hi (by have := (List.getElem?_eq_some_iff.1 hu).1; rw [hr.six] at this; exact this)]; exact hu)
      rw [Addr.add_lit] at this ⊢
      rw [Addr.add_lit]
      simpa [Nat.add_assoc] using this
    rw [he] at key
    exact ⟨⟨g, 0, none⟩, _, neg, aa, m, cc, b, tx, rfl, he, (key 0 _ rfl), key 1 _ rfl, key 2 _ rfl, key 3 _ rfl, key 4 _ rfl, key 5 _ rfl⟩
set_option maxRecDepth 100000 in
set_option maxHeartbeats 8000000 in
theorem same_list (w : World) (B1 B2 : Nat) (ka kb : Option Addr) (n kc kd : Nat) (ps qs : List (Value × Sx)) (h1 : RowR w B1 (.slice ka n kc) ps) (h2 : RowR w B2 (.slice kb n kd) qs) (hn1 : ps.length = n) (hn2 : qs.length = n) (he : ps.map (·.2) = qs.map (·.2)) (hs : ∀ p ∈ ps, SmallX p.2) (hn : n ≤ 1000) :
    Calls Tryz.prog 17 #[.slice ka n kc, .slice kb n kd] w (SamePost w) := by
  have H1 := Lib.hid h1
  have H2 := Lib.hid h2
  have HE := Lib.hid he
  have HS := Lib.hid hs
  have HN1 := Lib.hid hn1
  have HN2 := Lib.hid hn2
  clear h1 h2 he hs hn1 hn2
  go_enter Tryz.func17, Tryz.ntmps17
  go_wp2_with fail
  go_loopg [5] n (fun k jv wr => ∃ i : Nat, jv = .int .i64 (i : Int) ∧ k + i ≤ n ∧ n ≤ k + i ∧ Hid (Below w.heap.size w wr))
  case atStart => exact ⟨0, rfl, by omega, by omega, Below.refl _ _⟩
  case round =>
    obtain ⟨i, rfl, hk1, hk2, hb⟩ := hrel
    by_cases hin : i < n
    · have hi1 : i < ps.length := by rw [HN1.out]; exact hin
      have hi2 : i < qs.length := by rw [HN2.out]; exact hin
      have hd : decide ((i : Int) < (n : Int)) = true := by simp; omega
      obtain ⟨x, k, neg, aa, m, cc, b, tx, rfl, hx, c0, c1, c2, c3, c4, c5⟩ := (H1.out.below hb.out).at i hi1
      obtain ⟨y, k', neg', aa', m', cc', b', tx', rfl, hy, d0, d1, d2, d3, d4, d5⟩ := (H2.out.below hb.out).at i hi2
      have HSAME := Lib.hid (fun W (h : Below wr.heap.size wr W) => by
        have r1 := ((H1.out.below hb.out).below h).2 _ (List.getElem_mem hi1)
        have r2 := ((H2.out.below hb.out).below h).2 _ (List.getElem_mem hi2)
        have hse : (ps[i]'hi1).2 = (qs[i]'hi2).2 := by
          have := congrArg (fun l => l[i]?) HE.out
          simpa [hi1, hi2] using this
        rw [← hse] at r2
        exact same_x _ _ _ W r1 r2 (HS.out _ (List.getElem_mem hi1)))
      rw [hx, hy] at HSAME
      unfold pv at HSAME
      have e1 : wr.cell? ⟨(x.add (i * 6)).block, (x.add (i * 6)).off + 1, none⟩ = some (.bool neg) := c1
      have e2 : wr.cell? ⟨(x.add (i * 6)).block, (x.add (i * 6)).off + 2, none⟩ = some (.slice aa m cc) := c2
      have e3 : wr.cell? ⟨(x.add (i * 6)).block, (x.add (i * 6)).off + 3, none⟩ = some (.int .u64 b) := c3
      have e4 : wr.cell? ⟨(x.add (i * 6)).block, (x.add (i * 6)).off + 4, none⟩ = some (.string tx) := c4
      have e5 : wr.cell? ⟨(x.add (i * 6)).block, (x.add (i * 6)).off + 5, none⟩ = some (.slice none 0 0) := c5
      have g1 : wr.cell? ⟨(y.add (i * 6)).block, (y.add (i * 6)).off + 1, none⟩ = some (.bool neg') := d1
      have g2 : wr.cell? ⟨(y.add (i * 6)).block, (y.add (i * 6)).off + 2, none⟩ = some (.slice aa' m' cc') := d2
      have g3 : wr.cell? ⟨(y.add (i * 6)).block, (y.add (i * 6)).off + 3, none⟩ = some (.int .u64 b') := d3
      have g4 : wr.cell? ⟨(y.add (i * 6)).block, (y.add (i * 6)).off + 4, none⟩ = some (.string tx') := d4
      have g5 : wr.cell? ⟨(y.add (i * 6)).block, (y.add (i * 6)).off + 5, none⟩ = some (.slice none 0 0) := d5
      have hi0 : (0 : Int) ≤ (i : Int) := by omega
      have hii : (i : Int) < (n : Int) := by omega
      clear c1 c2 c3 c4 c5 d1 d2 d3 d4 d5 hx hy hi1 hi2
      go_upto_region 6 with fail
      go_region_with (go_at_call 19; refine (HSAME.out _ ((Below.refl _ _).drew)).mono ?_; rintro e w2 ⟨rfl, hb2⟩; have HB2 := Lib.hid (hb.out.trans (((Below.refl wr.heap.size wr).drew.trans hb2).mono hb.out.size)))
      all_goals
        go_wp2_with fail
        go_roundg (n - (i + 1))
        case measure => omega
        case rel => exact ⟨i + 1, by go_num, by omega, by omega, HB2⟩
    · obtain rfl : i = n := by omega
      have HB9 := Lib.hid hb.out
      have hd : decide ((i : Int) < (i : Int)) = false := by simp
      clear hb
      go_wp2
      go_ret
      exact ⟨rfl, HB9.out⟩
end Go.Proofs.YteibkaonofkcbaaGreat
