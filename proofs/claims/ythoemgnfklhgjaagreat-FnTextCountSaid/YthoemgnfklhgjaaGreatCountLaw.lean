/- The law's walk: how often a part stands in a text (not done: as far as region 3). -/
import Derived.Test.YthoemgnfklhgjaaGreatAsked
import Derived.Test.YthoemgnfklhgjaaGreatTextCount
import Derived.Deep.DeepCutAuto
namespace Go.Proofs.YthoemgnfklhgjaaGreat
open Go.RowKit
attribute [local go_sem ↓] Go.wp_at_zero Go.wp_at_succ
theorem countR_le {s t : ByteArray} {s1 s2 : Sc} (hs : AsciiT s) {m : Nat} (h : countR s t s1 s2 = some m) : m ≤ 1000 := by
  unfold countR at h
  split at h
  · injection h with h
    rename_i a b _ _
    have h1 := (ascii_cut hs (clampI a s.size) (clampI b s.size)).1
    have h2 := rest_le t.data.toList (cutB s (clampI a s.size) (clampI b s.size)).data.toList 0
    have h3 : (cutB s (clampI a s.size) (clampI b s.size)).data.toList.length = (cutB s (clampI a s.size) (clampI b s.size)).size := by simp
    omega
  · simp at h
def R3 (w wx : World) (s9 s10 : Value) : Prop := ∃ (S T : ByteArray) (q1 q2 : Sc) (g1 g2 : Bool) (a1 a2 : Option Addr) (n1 c1 n2 c2 : Nat) (x1 x2 : ByteArray), s9 = .string S ∧ s10 = .string T ∧ AsciiT S ∧ AsciiT T ∧ q1.ok ∧ q2.ok ∧
  Blk wx w.heap.size 26 #[.int .i64 (kindOf q1), .bool g1, .slice a1 n1 c1, .int .u64 0, .string x1, .slice none 0 0] ∧ Blk wx (w.heap.size + 1) 26 #[.int .i64 (kindOf q2), .bool g2, .slice a2 n2 c2, .int .u64 0, .string x2, .slice none 0 0] ∧
  PVal wx (w.heap.size + 2) (pv (kindOf q1) g1 a1 n1 c1 0 x1 none 0 0) q1 ∧ PVal wx (w.heap.size + 2) (pv (kindOf q2) g2 a2 n2 c2 0 x2 none 0 0) q2 ∧ Below w.heap.size w wx
theorem blk_six {w : World} {g : Nat} {t : TypeId} {a b c d e f : Value} (u0 u1 u2 u3 u4 u5 : Value) (h : Blk w g t #[a, b, c, d, e, f]) : Blk ((((((w.setCell ⟨g, 0, none⟩ u0).setCell ⟨g, 1, none⟩ u1).setCell ⟨g, 2, none⟩ u2).setCell ⟨g, 3, none⟩ u3).setCell ⟨g, 4, none⟩ u4).setCell ⟨g, 5, none⟩ u5) g t #[u0, u1, u2, u3, u4, u5] :=
  (((((h.put 0 u0).put 1 u1).put 2 u2).put 3 u3).put 4 u4).put 5 u5
theorem PVal.only {w w' : World} {B : Nat} {S : Nat → Prop} {v : Value} {s : Sc} (h : PVal w B v s) (k : Only S w w') (hs : ∀ g, B ≤ g → ¬ S g) : PVal w' B v s := by
  cases s with
  | none => exact h
  | str t => exact h
  | int n =>
    obtain ⟨neg, l, ⟨vs, hv, ho, h1, h2⟩, h3⟩ := h
    exact ⟨neg, l, ⟨vs, hv, ho.only k hs, h1, h2⟩, h3⟩
theorem r3_end {w wd : World} {S T : ByteArray} {q1 q2 : Sc} {k1 k2 : Int} {g1 g2 : Bool} {a1 a2 : Option Addr} {n1 c1 n2 c2 : Nat} {x1 x2 : ByteArray} {d0 d1 d2 d3 d4 d5 f0 f1 f2 f3 f4 f5 : Value} (hS : AsciiT S) (hT : AsciiT T) (h1 : q1.ok) (h2 : q2.ok) (e1 : k1 = kindOf q1) (e2 : k2 = kindOf q2)
    (b1 : Blk wd w.heap.size 26 #[d0, d1, d2, d3, d4, d5]) (b2 : Blk wd (w.heap.size + 1) 26 #[f0, f1, f2, f3, f4, f5])
    (p1 : PVal wd (w.heap.size + 1 + 1) (pv k1 g1 a1 n1 c1 0 x1 none 0 0) q1) (p2 : PVal wd (w.heap.size + 1 + 1) (pv k2 g2 a2 n2 c2 0 x2 none 0 0) q2) (hb : Below w.heap.size w wd) (W : World)
    (hW : W = (((((((((((wd.setCell ⟨w.heap.size, 0, none⟩ (.int .i64 k1)).setCell ⟨w.heap.size, 1, none⟩ (.bool g1)).setCell ⟨w.heap.size, 2, none⟩ (.slice a1 n1 c1)).setCell ⟨w.heap.size, 3, none⟩ (.int .u64 0)).setCell ⟨w.heap.size, 4, none⟩ (.string x1)).setCell ⟨w.heap.size, 5, none⟩ (.slice none 0 0)).setCell ⟨w.heap.size + 1, 0, none⟩ (.int .i64 k2)).setCell ⟨w.heap.size + 1, 1, none⟩ (.bool g2)).setCell ⟨w.heap.size + 1, 2, none⟩ (.slice a2 n2 c2)).setCell ⟨w.heap.size + 1, 3, none⟩ (.int .u64 0)).setCell ⟨w.heap.size + 1, 4, none⟩ (.string x2)).setCell ⟨w.heap.size + 1, 5, none⟩ (.slice none 0 0)) :
    R3 w W (.string S) (.string T) := by
  subst hW e1 e2
  have o1 := six_set wd w.heap.size (.int .i64 (kindOf q1)) (.bool g1) (.slice a1 n1 c1) (.int .u64 0) (.string x1) (.slice none 0 0)
  have B1 := blk_six (.int .i64 (kindOf q1)) (.bool g1) (.slice a1 n1 c1) (.int .u64 0) (.string x1) (.slice none 0 0) b1
  have B2 := b2.only o1 (by omega)
  generalize ((((((wd.setCell ⟨w.heap.size, 0, none⟩ (.int .i64 (kindOf q1))).setCell ⟨w.heap.size, 1, none⟩ (.bool g1)).setCell ⟨w.heap.size, 2, none⟩ (.slice a1 n1 c1)).setCell ⟨w.heap.size, 3, none⟩ (.int .u64 0)).setCell ⟨w.heap.size, 4, none⟩ (.string x1)).setCell ⟨w.heap.size, 5, none⟩ (.slice none 0 0)) = wx at *
  have o2 := six_set wx (w.heap.size + 1) (.int .i64 (kindOf q2)) (.bool g2) (.slice a2 n2 c2) (.int .u64 0) (.string x2) (.slice none 0 0)
  have B3 := blk_six (.int .i64 (kindOf q2)) (.bool g2) (.slice a2 n2 c2) (.int .u64 0) (.string x2) (.slice none 0 0) B2
  have B4 := B1.only o2 (by omega)
  refine ⟨S, T, q1, q2, g1, g2, a1, a2, n1, c1, n2, c2, x1, x2, rfl, rfl, hS, hT, h1, h2, B4, B3, (p1.only o1 (fun g hg e => by omega)).only o2 (fun g hg e => by omega), (p2.only o1 (fun g hg e => by omega)).only o2 (fun g hg e => by omega), ?_⟩
  exact (hb.trans (o1.to_below hb.size (fun k _ e => by omega))).trans (o2.to_below (Nat.le_trans hb.size o1.size) (fun k _ e => by omega))
def R4 (w wx : World) (r : Option Nat) (s11 s13 : Value) : Prop := ∃ (p : Nat) (k : Int) (g : Bool) (a : Option Addr) (n c : Nat) (x : ByteArray), s11 = .pointer (some ⟨p, 0, none⟩) ∧ s13 = .bool r.isSome ∧
  Blk wx p 26 #[.int .i64 k, .bool g, .slice a n c, .int .u64 0, .string x, .slice none 0 0] ∧
  (∀ m, r = some m → ∃ neg l, IVal wx 0 (.agg #[.int .i64 k, .bool g, .slice a n c, .int .u64 0, .string x, .slice none 0 0]) neg l ∧ intOf2 neg l = (m : Int)) ∧ Below w.heap.size w wx
def AskedUni (r : Option Nat) (w : World) (e : Ending) (w' : World) : Prop := ∃ (k : Int) (g : Bool) (a : Option Addr) (n c : Nat) (x : ByteArray), e = .returned (.tuple #[.agg #[.int .i64 k, .bool g, .slice a n c, .int .u64 0, .string x, .slice none 0 0], .slice none 0 0, .bool r.isSome]) ∧
  (∀ m, r = some m → ∃ neg l, IVal w' w.heap.size (.agg #[.int .i64 k, .bool g, .slice a n c, .int .u64 0, .string x, .slice none 0 0]) neg l ∧ intOf2 neg l = (m : Int)) ∧ Below w.heap.size w w'
theorem asked_uni {r : Option Nat} {w : World} {e : Ending} {w' : World} (h : AskedPost r w e w') : AskedUni r w e w' := by
  obtain ⟨hr, hb⟩ := h
  rcases hr with ⟨m, v, neg, l, rfl, rfl, hv, hm⟩ | ⟨rfl, rfl⟩
  · have hp : PVal w' w.heap.size v (.int (m : Int)) := ⟨neg, l, hv, hm⟩
    obtain ⟨n1, a1, m1, c1, x1, rfl⟩ := hp.pv
    exact ⟨_, n1, a1, m1, c1, x1, rfl, fun m' hm' => by injection hm' with hm'; subst hm'; exact ⟨neg, l, hv, hm⟩, hb⟩
  · exact ⟨0, false, none, 0, 0, ⟨#[]⟩, rfl, fun m hm => by simp at hm, hb⟩
theorem asked_arm {wc W0 : World} {S T : ByteArray} {q1 q2 : Sc} {k1 k2 : Int} {g1 g2 : Bool} {a1 a2 : Option Addr} {n1 c1 n2 c2 G B : Nat} {x1 x2 : ByteArray} (hS : AsciiT S) (hT : AsciiT T) (h1 : q1.ok) (h2 : q2.ok) (e1 : k1 = kindOf q1) (e2 : k2 = kindOf q2)
    (p1 : PVal wc B (pv k1 g1 a1 n1 c1 0 x1 none 0 0) q1) (p2 : PVal wc B (pv k2 g2 a2 n2 c2 0 x2 none 0 0) q2) (hb : Below wc.heap.size wc W0)
    (hk : Blk W0 G 26 #[.int .i64 4, .bool false, .slice none 0 0, .int .u64 0, .string T, .slice none 0 0, .int .i64 k1, .bool g1, .slice a1 n1 c1, .int .u64 0, .string x1, .slice none 0 0, .int .i64 k2, .bool g2, .slice a2 n2 c2, .int .u64 0, .string x2, .slice none 0 0]) :
    Calls Tryz.prog 7 #[.string S, .string ⟨#[99, 111, 117, 110, 116]⟩, .slice (some ⟨G, 0, none⟩) 3 3] W0 (AskedUni (countR S T q1 q2) W0) := by
  subst e1 e2
  refine (asked_any S T q1 q2 G W0 hS.1 hT.1 h1 h2 ⟨(hk.cell 0).trans rfl, (hk.cell 4).trans rfl⟩ ⟨hk.lt, g1, a1, n1, c1, x1, (p1.base (Nat.zero_le _)).below hb, ?_⟩ ⟨hk.lt, g2, a2, n2, c2, x2, (p2.base (Nat.zero_le _)).below hb, ?_⟩).mono (fun e w' h => asked_uni h)
  · exact ⟨(hk.cell 6).trans rfl, (hk.cell 7).trans rfl, (hk.cell 8).trans rfl, (hk.cell 9).trans rfl, (hk.cell 10).trans rfl, (hk.cell 11).trans rfl⟩
  · exact ⟨(hk.cell 12).trans rfl, (hk.cell 13).trans rfl, (hk.cell 14).trans rfl, (hk.cell 15).trans rfl, (hk.cell 16).trans rfl, (hk.cell 17).trans rfl⟩
theorem r4_end {wc we : World} {r : Option Nat} {p C : Nat} {k : Int} {g : Bool} {a : Option Addr} {n c : Nat} {x : ByteArray} {d0 d1 d2 d3 d4 d5 : Value} (hk : Blk we p 26 #[d0, d1, d2, d3, d4, d5]) (hp : wc.heap.size ≤ p) (hpC : p < C)
    (hv : ∀ m, r = some m → ∃ neg l, IVal we C (.agg #[.int .i64 k, .bool g, .slice a n c, .int .u64 0, .string x, .slice none 0 0]) neg l ∧ intOf2 neg l = (m : Int)) (hb : Below wc.heap.size wc we) (W : World)
    (hW : W = (((((we.setCell ⟨p, 0, none⟩ (.int .i64 k)).setCell ⟨p, 1, none⟩ (.bool g)).setCell ⟨p, 2, none⟩ (.slice a n c)).setCell ⟨p, 3, none⟩ (.int .u64 0)).setCell ⟨p, 4, none⟩ (.string x)).setCell ⟨p, 5, none⟩ (.slice none 0 0)) :
    R4 wc W r (.pointer (some ⟨p, 0, none⟩)) (.bool r.isSome) := by
  subst hW
  have o1 := six_set we p (.int .i64 k) (.bool g) (.slice a n c) (.int .u64 0) (.string x) (.slice none 0 0)
  refine ⟨p, k, g, a, n, c, x, rfl, rfl, blk_six _ _ _ _ _ _ hk, fun m hm => ?_, hb.trans (o1.to_below hb.size (fun k _ e => by omega))⟩
  obtain ⟨neg, l, hi, hn⟩ := hv m hm
  have hq : PVal we C (.agg #[.int .i64 k, .bool g, .slice a n c, .int .u64 0, .string x, .slice none 0 0]) (.int (m : Int)) := ⟨neg, l, hi, hn⟩
  obtain ⟨neg', l', h1, h2⟩ := (hq.only o1 (fun g hg e => by omega)).base (Nat.zero_le _)
  exact ⟨neg', l', h1, h2⟩
set_option maxRecDepth 100000 in
set_option maxHeartbeats 20000000 in
theorem count_law (s t : ByteArray) (k1 k2 : Int) (n1 n2 : Bool) (a1 a2 : Option Addr) (m1 m2 c1 c2 : Nat) (b1 b2 : Int) (x1 x2 : ByteArray) (ka1 ka2 : Option Addr) (kn1 kn2 kc1 kc2 : Nat) (l1 l2 : List Nat) (w : World)
    (hs : s.size ≤ maxLen) (ht : t.size ≤ maxLen) (hb1 : BSl w (.slice a1 m1 c1) l1) (hb2 : BSl w (.slice a2 m2 c2) l2) (hl1 : l1.length = m1) (hl2 : l2.length = m2) :
    Calls Tryz.prog 3 #[.string s, .string t, pv k1 n1 a1 m1 c1 b1 x1 ka1 kn1 kc1, pv k2 n2 a2 m2 c2 b2 x2 ka2 kn2 kc2] w fun e w' => e = .returned (.bool true) ∧ Below w.heap.size w w' := by
  have HB0 := Lib.hid (((Below.refl w.heap.size w).alloc (Nat.le_refl _) (.cells #[.int .i64 k1, .bool n1, .slice a1 m1 c1, .int .u64 b1, .string x1, .slice ka1 kn1 kc1] 26)).alloc (by simp) (.cells #[.int .i64 k2, .bool n2, .slice a2 m2 c2, .int .u64 b2, .string x2, .slice ka2 kn2 kc2] 26))
  unfold pv
  by_cases h1 : 2147483647 < s.size
  · have d1 : decide ((2147483647 : Int) < (s.size : Int)) = true := by simp; omega
    clear hb1 hb2 hs ht h1
    go_enter Tryz.func3, Tryz.ntmps3
    go_wp2
    go_ret
    exact ⟨rfl, HB0.out⟩
  · have d1 : decide ((2147483647 : Int) < (s.size : Int)) = false := by simp; omega
    by_cases h2 : 2147483647 < t.size
    · have d2 : decide ((2147483647 : Int) < (t.size : Int)) = true := by simp; omega
      clear hb1 hb2 hs ht h1 h2
      go_enter Tryz.func3, Tryz.ntmps3
      go_wp2
      go_ret
      exact ⟨rfl, HB0.out⟩
    · have d2 : decide ((2147483647 : Int) < (t.size : Int)) = false := by simp; omega
      obtain ⟨q1, hq1⟩ : ∃ q, q = decide (m1 ≤ 2147483647 ∧ x1.size ≤ 2147483647 ∧ kn1 ≤ 2147483647) := ⟨_, rfl⟩
      obtain ⟨q2, hq2⟩ : ∃ q, q = decide (m2 ≤ 2147483647 ∧ x2.size ≤ 2147483647 ∧ kn2 ≤ 2147483647) := ⟨_, rfl⟩
      have HF1 := Lib.hid (fun W => fits_any k1 n1 a1 m1 c1 b1 x1 ka1 kn1 kc1 W q1 hq1)
      have HF2 := Lib.hid (fun W => fits_any k2 n2 a2 m2 c2 b2 x2 ka2 kn2 kc2 W q2 hq2)
      unfold pv at HF1 HF2
      have HK1 := Lib.hid ((Blk.new w 26 #[.int .i64 k1, .bool n1, .slice a1 m1 c1, .int .u64 b1, .string x1, .slice ka1 kn1 kc1]).alloc (.cells #[.int .i64 k2, .bool n2, .slice a2 m2 c2, .int .u64 b2, .string x2, .slice ka2 kn2 kc2] 26))
      have HK2 := Lib.hid (Blk.new_at (w.alloc (.cells #[.int .i64 k1, .bool n1, .slice a1 m1 c1, .int .u64 b1, .string x1, .slice ka1 kn1 kc1] 26)) 26 #[.int .i64 k2, .bool n2, .slice a2 m2 c2, .int .u64 b2, .string x2, .slice ka2 kn2 kc2] (n := w.heap.size + 1) (by simp))
      have HQ1 := Lib.hid hq1
      have HQ2 := Lib.hid hq2
      have HS1 := Lib.hid hb1
      have HS2 := Lib.hid hb2
      have H1 := Lib.hid h1
      have H2 := Lib.hid h2
      clear hq1 hq2 hb1 hb2 h1 h2
      go_enter Tryz.func3, Tryz.ntmps3
      go_wp2_with fail
      refine (HF1.out _).mono ?_
      rintro e w1 ⟨rfl, hb1⟩
      have HB1 := Lib.hid (HB0.out.trans (hb1.mono HB0.out.size))
      have HK1a := Lib.hid (HK1.out.below hb1 HK1.out.lt)
      have HK2a := Lib.hid (HK2.out.below hb1 HK2.out.lt)
      obtain ⟨e0, e1, e2, e3, e4, e5, g0, g1, g2, g3, g4, g5⟩ := blk6 (HK2.out.below hb1 HK2.out.lt)
      clear hb1
      cases q1
      · go_wp2
        go_ret
        exact ⟨rfl, HB1.out⟩
      · go_wp2_with fail
        refine (HF2.out _).mono ?_
        rintro e w2 ⟨rfl, hb2⟩
        have HB2 := Lib.hid (HB1.out.trans (hb2.mono HB1.out.size))
        have HK1b := Lib.hid (HK1a.out.below hb2 HK1a.out.lt)
        have HK2b := Lib.hid (HK2a.out.below hb2 HK2a.out.lt)
        clear hb2
        cases q2
        · go_wp2
          go_ret
          exact ⟨rfl, HB2.out⟩
        · clear e0 e1 e2 e3 e4 e5 g0 g1 g2 g3 g4 g5
          have HCELL : Hid (∀ W, Below w2.heap.size w2 W → (W.cell? ⟨w.heap.size, 0, none⟩ = some (.int .i64 k1) ∧ W.cell? ⟨w.heap.size, 1, none⟩ = some (.bool n1) ∧ W.cell? ⟨w.heap.size, 2, none⟩ = some (.slice a1 m1 c1) ∧ W.cell? ⟨w.heap.size, 3, none⟩ = some (.int .u64 b1) ∧ W.cell? ⟨w.heap.size, 4, none⟩ = some (.string x1) ∧ W.cell? ⟨w.heap.size, 5, none⟩ = some (.slice ka1 kn1 kc1)) ∧ W.cell? ⟨w.heap.size + 1, 0, none⟩ = some (.int .i64 k2) ∧ W.cell? ⟨w.heap.size + 1, 1, none⟩ = some (.bool n2) ∧ W.cell? ⟨w.heap.size + 1, 2, none⟩ = some (.slice a2 m2 c2) ∧ W.cell? ⟨w.heap.size + 1, 3, none⟩ = some (.int .u64 b2) ∧ W.cell? ⟨w.heap.size + 1, 4, none⟩ = some (.string x2) ∧ W.cell? ⟨w.heap.size + 1, 5, none⟩ = some (.slice ka2 kn2 kc2)) := fun W hW => by
            have i1 := HK1b.out.below hW HK1b.out.lt
            have i2 := HK2b.out.below hW HK2b.out.lt
            exact ⟨⟨(i1.cell 0).trans rfl, (i1.cell 1).trans rfl, (i1.cell 2).trans rfl, (i1.cell 3).trans rfl, (i1.cell 4).trans rfl, (i1.cell 5).trans rfl⟩, (i2.cell 0).trans rfl, (i2.cell 1).trans rfl, (i2.cell 2).trans rfl, (i2.cell 3).trans rfl, (i2.cell 4).trans rfl, (i2.cell 5).trans rfl⟩
          have C0 := Lib.hid (Below.refl w2.heap.size w2).drew
          have hm1 : m1 ≤ 2147483647 := by have := HQ1.out; simp at this; omega
          have hm2 : m2 ≤ 2147483647 := by have := HQ2.out; simp at this; omega
          have tok1 : True := trivial
          have tok2 : True := trivial
          have tok3 : True := trivial
          have tok4 : True := trivial
          obtain ⟨⟨i0, i1, i2, i3, i4, i5⟩, j0, j1, j2, j3, j4, j5⟩ := HCELL.out w2 (Below.refl _ _)
          go_upto_region 3 with fail
          go_cut [9, 10] (fun s9 s10 wx => Hid (R3 w wx s9 s10))
          case first =>
            go_region_with (first
            | (go_at_call 5; have _t := tok1; refine (ascii_any s hs _).mono ?_; rintro e wa ⟨s', rfl, hsa, hba⟩; have C1 := Lib.hid (C0.out.trans (hba.mono C0.out.size)); have HSA := Lib.hid hsa; obtain ⟨⟨ia0, ia1, ia2, ia3, ia4, ia5⟩, ja0, ja1, ja2, ja3, ja4, ja5⟩ := HCELL.out _ C1.out; clear _t tok1 hba hsa)
            | (go_at_call 5; have _t := tok2; refine (ascii_any t ht _).mono ?_; rintro e wb ⟨t', rfl, hta, hbb⟩; have C2 := Lib.hid (C1.out.trans (hbb.mono C1.out.size)); have HTA := Lib.hid hta; obtain ⟨⟨ib0, ib1, ib2, ib3, ib4, ib5⟩, jb0, jb1, jb2, jb3, jb4, jb5⟩ := HCELL.out _ C2.out; clear _t tok2 hbb hta)
            | (go_at_call 6; have _t := tok3; refine (steps_any k1 n1 a1 m1 c1 b1 x1 ka1 kn1 kc1 l1 _ (HS1.out.old (HB2.out.trans (C2.out.mono HB2.out.size))) (by omega)).mono ?_; rintro e wc ⟨v3, s1, rfl, hv3, hs1, hst1, hbc⟩; have C3 := Lib.hid (C2.out.trans (hbc.mono C2.out.size)); have HV3 := Lib.hid (hv3.base (Nat.le_trans (Nat.succ_le_of_lt HK2b.out.lt) C2.out.size)); have HO3 := Lib.hid hs1; obtain ⟨ng1, ad1, le1, ca1, tx1, hpv1⟩ := hv3.pv; obtain ⟨kk1, hkk1⟩ : ∃ k, k = kindOf s1 := ⟨_, rfl⟩; rw [← hkk1] at hpv1; unfold pv at hpv1; subst hpv1; have HKK1 := Lib.hid hkk1; obtain ⟨⟨ic0, ic1, ic2, ic3, ic4, ic5⟩, jc0, jc1, jc2, jc3, jc4, jc5⟩ := HCELL.out _ C3.out; clear _t tok3 hv3 hs1 hst1 hbc hkk1)
            | (go_at_call 6; have _t := tok4; refine (steps_any k2 n2 a2 m2 c2 b2 x2 ka2 kn2 kc2 l2 _ (HS2.out.old (HB2.out.trans (C3.out.mono HB2.out.size))) (by omega)).mono ?_; rintro e wd ⟨v4, s2, rfl, hv4, hs2, hst2, hbd⟩; have C4 := Lib.hid (C3.out.trans (hbd.mono C3.out.size)); have HV4 := Lib.hid (hv4.base (Nat.le_trans (Nat.succ_le_of_lt HK2b.out.lt) C3.out.size)); have HO4 := Lib.hid hs2; have HV3d := Lib.hid (HV3.out.below hbd); obtain ⟨ng2, ad2, le2, ca2, tx2, hpv2⟩ := hv4.pv; obtain ⟨kk2, hkk2⟩ : ∃ k, k = kindOf s2 := ⟨_, rfl⟩; rw [← hkk2] at hpv2; unfold pv at hpv2; subst hpv2; have HKK2 := Lib.hid hkk2; clear _t tok4 hv4 hs2 hst2 hbd hkk2; obtain ⟨y0, y1, y2, y3, y4, y5, z0, z1, z2, z3, z4, z5⟩ := blk6 (HK1b.out.below C4.out HK1b.out.lt); obtain ⟨yy0, yy1, yy2, yy3, yy4, yy5, zz0, zz1, zz2, zz3, zz4, zz5⟩ := blk6 (HK2b.out.below C4.out HK2b.out.lt)))
            all_goals
              go_wp2_with fail
              go_meet
              exact Lib.hid (r3_end HSA.out HTA.out HO3.out HO4.out HKK1.out HKK2.out (HK1b.out.below C4.out HK1b.out.lt) (HK2b.out.below C4.out HK2b.out.lt) HV3d.out HV4.out (HB2.out.trans (C4.out.mono HB2.out.size)) _ rfl)
          case rest =>
            clear HCELL C0 HQ1 HQ2 HS1 HS2 HF1 HF2 HK1 HK2 HK1a HK2a HK1b HK2b H1 H2 HB0 HB1
            obtain ⟨S, T, q1, q2, g1, g2, aa1, aa2, nn1, cc1, nn2, cc2, xx1, xx2, rfl, rfl, hS, hT, ho1, ho2, hk1, hk2, hp1, hp2, hbw⟩ := hcut.out
            obtain ⟨kk1, hkk1⟩ : ∃ k, k = kindOf q1 := ⟨_, rfl⟩
            obtain ⟨kk2, hkk2⟩ : ∃ k, k = kindOf q2 := ⟨_, rfl⟩
            rw [← hkk1] at hk1 hp1
            rw [← hkk2] at hk2 hp2
            have HB1 := Lib.hid hk1
            have HB2 := Lib.hid hk2
            have HP1 := Lib.hid hp1
            have HP2 := Lib.hid hp2
            have HKK1 := Lib.hid hkk1
            have HKK2 := Lib.hid hkk2
            have HW := Lib.hid hbw
            have HS := Lib.hid hS
            have HT := Lib.hid hT
            have HO1 := Lib.hid ho1
            have HO2 := Lib.hid ho2
            clear hk1 hk2 hp1 hp2 hkk1 hkk2 hbw hS hT ho1 ho2 hcut
            have HCELL : Hid (∀ W, Below wc.heap.size wc W → (W.cell? ⟨w.heap.size, 0, none⟩ = some (.int .i64 kk1) ∧ W.cell? ⟨w.heap.size, 1, none⟩ = some (.bool g1) ∧ W.cell? ⟨w.heap.size, 2, none⟩ = some (.slice aa1 nn1 cc1) ∧ W.cell? ⟨w.heap.size, 3, none⟩ = some (.int .u64 0) ∧ W.cell? ⟨w.heap.size, 4, none⟩ = some (.string xx1) ∧ W.cell? ⟨w.heap.size, 5, none⟩ = some (.slice none 0 0)) ∧ W.cell? ⟨w.heap.size + 1, 0, none⟩ = some (.int .i64 kk2) ∧ W.cell? ⟨w.heap.size + 1, 1, none⟩ = some (.bool g2) ∧ W.cell? ⟨w.heap.size + 1, 2, none⟩ = some (.slice aa2 nn2 cc2) ∧ W.cell? ⟨w.heap.size + 1, 3, none⟩ = some (.int .u64 0) ∧ W.cell? ⟨w.heap.size + 1, 4, none⟩ = some (.string xx2) ∧ W.cell? ⟨w.heap.size + 1, 5, none⟩ = some (.slice none 0 0)) := fun W hW => by
              have i1 := HB1.out.below hW HB1.out.lt
              have i2 := HB2.out.below hW HB2.out.lt
              exact ⟨⟨(i1.cell 0).trans rfl, (i1.cell 1).trans rfl, (i1.cell 2).trans rfl, (i1.cell 3).trans rfl, (i1.cell 4).trans rfl, (i1.cell 5).trans rfl⟩, (i2.cell 0).trans rfl, (i2.cell 1).trans rfl, (i2.cell 2).trans rfl, (i2.cell 3).trans rfl, (i2.cell 4).trans rfl, (i2.cell 5).trans rfl⟩
            obtain ⟨w4, rfl⟩ : ∃ x, x = wc := ⟨wc, rfl⟩
            have D0 := Lib.hid (Below.refl w4.heap.size w4).drew
            go_upto_region 4 with fail
            obtain ⟨r, hr⟩ : ∃ r, r = countR S T q1 q2 := ⟨_, rfl⟩
            have HR := Lib.hid hr
            clear hr
            go_cut [11, 13] (fun s11 s13 wx => Hid (R4 w4 wx r s11 s13))
            case first =>
              go_region_held3 (fun W => (W.cell? ⟨w.heap.size, 0, none⟩ = some (.int .i64 kk1) ∧ W.cell? ⟨w.heap.size, 1, none⟩ = some (.bool g1) ∧ W.cell? ⟨w.heap.size, 2, none⟩ = some (.slice aa1 nn1 cc1) ∧ W.cell? ⟨w.heap.size, 3, none⟩ = some (.int .u64 0) ∧ W.cell? ⟨w.heap.size, 4, none⟩ = some (.string xx1) ∧ W.cell? ⟨w.heap.size, 5, none⟩ = some (.slice none 0 0)) ∧ W.cell? ⟨w.heap.size + 1, 0, none⟩ = some (.int .i64 kk2) ∧ W.cell? ⟨w.heap.size + 1, 1, none⟩ = some (.bool g2) ∧ W.cell? ⟨w.heap.size + 1, 2, none⟩ = some (.slice aa2 nn2 cc2) ∧ W.cell? ⟨w.heap.size + 1, 3, none⟩ = some (.int .u64 0) ∧ W.cell? ⟨w.heap.size + 1, 4, none⟩ = some (.string xx2) ∧ W.cell? ⟨w.heap.size + 1, 5, none⟩ = some (.slice none 0 0))
                (first | (refine HCELL.out _ ?_; first | with_reducible exact D0.out | with_reducible exact E1.out | with_reducible exact D1.out | with_reducible exact E1.out.alloc E1.out.size _ | with_reducible exact D1.out.alloc D1.out.size _ | with_reducible exact D0.out.alloc D0.out.size _ | with_reducible exact ((Below.refl _ _).alloc (Nat.le_refl _) _).drew | ((with_reducible refine E1.out.trans ((six_set _ _ _ _ _ _ _ _).to_below E1.out.size ?_)); intro k _ e; have s1 := D1.out.size; have s2 := E1.out.size; omega) | ((with_reducible refine (E1.out.alloc E1.out.size _).trans ((six_set _ _ _ _ _ _ _ _).to_below ?_ ?_)); (simpa using Nat.le_succ_of_le E1.out.size); (intro k _ e; have s1 := D1.out.size; have s2 := E1.out.size; omega))) | go_keep)
                (first
                | (go_at_call 8; refine (text_val T _).mono ?_; rintro e wd ⟨rfl, hbd⟩; have D1 := Lib.hid (D0.out.trans (hbd.mono D0.out.size)); clear hbd; unfold pStr)
                | (go_at_call 8; refine (text_val T _).mono ?_; rintro e wd ⟨rfl, hbd⟩; have D1 := Lib.hid (((Below.refl w4.heap.size w4).alloc (Nat.le_refl _) (.cells #[.int .i64 0, .bool false, .slice none 0 0, .int .u64 0, .string ⟨#[]⟩, .slice none 0 0] 26)).drew.trans (hbd.mono (by simp))); have HZ := Lib.hid ((Blk.new w4 26 #[.int .i64 0, .bool false, .slice none 0 0, .int .u64 0, .string ⟨#[]⟩, .slice none 0 0]).drew.below hbd (by simp)); clear hbd; unfold pStr)
                | (go_at_call 7; have _h := HZ; refine (asked_arm HS.out HT.out HO1.out HO2.out HKK1.out HKK2.out HP1.out HP2.out ?_ ?_).mono ?_; (with_reducible exact D1.out.alloc D1.out.size _); exact Blk.new _ _ _; rintro e we hh; rw [← HR.out] at hh; obtain ⟨rk, rg, ra, rn, rc, rx, rfl, hrv, hbe⟩ := hh; have E1 := Lib.hid ((D1.out.alloc D1.out.size _).trans (hbe.mono (Nat.le_trans D1.out.size (by simp)))); have HRV := Lib.hid hrv; have HZE := Lib.hid ((HZ.out.alloc _).below hbe (Nat.lt_of_lt_of_le HZ.out.lt (by simp))); obtain ⟨y0, y1, y2, y3, y4, y5, z0, z1, z2, z3, z4, z5⟩ := blk6 HZE.out; clear hrv hbe)
                | (go_at_call 7; refine (asked_arm HS.out HT.out HO1.out HO2.out HKK1.out HKK2.out HP1.out HP2.out ?_ ?_).mono ?_; (with_reducible refine (D1.out.alloc D1.out.size (.cells #[.int .i64 0, .bool false, .slice none 0 0, .int .u64 0, .string ⟨#[]⟩, .slice none 0 0] 26)).alloc (Nat.le_trans D1.out.size ?_) _); simp; exact Blk.new_at _ _ _ (by simp); rintro e we hh; rw [← HR.out] at hh; obtain ⟨rk, rg, ra, rn, rc, rx, rfl, hrv, hbe⟩ := hh; have E1 := Lib.hid (((D1.out.alloc D1.out.size (.cells #[.int .i64 0, .bool false, .slice none 0 0, .int .u64 0, .string ⟨#[]⟩, .slice none 0 0] 26)).alloc (Nat.le_trans D1.out.size (by simp)) _).trans (hbe.mono (Nat.le_trans D1.out.size (by simp; omega)))); have HRV := Lib.hid hrv; have HZE := Lib.hid (((Blk.new wd 26 #[.int .i64 0, .bool false, .slice none 0 0, .int .u64 0, .string ⟨#[]⟩, .slice none 0 0]).alloc _).below hbe (by first | (simp; done) | (simp; omega))); obtain ⟨y0, y1, y2, y3, y4, y5, z0, z1, z2, z3, z4, z5⟩ := blk6 HZE.out; clear hrv hbe)
                | (go_at_call 7; refine (asked_arm HS.out HT.out HO1.out HO2.out HKK1.out HKK2.out HP1.out HP2.out ?_ ?_).mono ?_; (with_reducible refine (D1.out.alloc D1.out.size _).alloc (Nat.le_trans D1.out.size ?_) (.cells #[.int .i64 0, .bool false, .slice none 0 0, .int .u64 0, .string ⟨#[]⟩, .slice none 0 0] 26)); simp; exact (Blk.new _ _ _).alloc _; rintro e we hh; rw [← HR.out] at hh; obtain ⟨rk, rg, ra, rn, rc, rx, rfl, hrv, hbe⟩ := hh; have E1 := Lib.hid (((D1.out.alloc D1.out.size _).alloc (Nat.le_trans D1.out.size (by simp)) (.cells #[.int .i64 0, .bool false, .slice none 0 0, .int .u64 0, .string ⟨#[]⟩, .slice none 0 0] 26)).trans (hbe.mono (Nat.le_trans D1.out.size (by simp; omega)))); have HRV := Lib.hid hrv; have HZE := Lib.hid ((Blk.new_at _ 26 #[.int .i64 0, .bool false, .slice none 0 0, .int .u64 0, .string ⟨#[]⟩, .slice none 0 0] (n := wd.heap.size + 1) (by simp)).below hbe (by first | (simp; done) | (simp; omega))); obtain ⟨y0, y1, y2, y3, y4, y5, z0, z1, z2, z3, z4, z5⟩ := blk6 HZE.out; clear hrv hbe)
                | (go_at_call 7; refine (asked_arm HS.out HT.out HO1.out HO2.out HKK1.out HKK2.out HP1.out HP2.out ?_ ?_).mono ?_; (with_reducible exact D1.out.alloc D1.out.size _); exact Blk.new _ _ _; rintro e we hh; rw [← HR.out] at hh; obtain ⟨rk, rg, ra, rn, rc, rx, rfl, hrv, hbe⟩ := hh; have E1 := Lib.hid ((D1.out.alloc D1.out.size _).trans (hbe.mono (Nat.le_trans D1.out.size (by simp)))); have HRV := Lib.hid hrv; clear hrv hbe))
              all_goals
                go_wp2_with fail
                go_meet
                first
                | exact Lib.hid (r4_end HZE.out (by have := D1.out.size; omega) (Nat.lt_of_lt_of_le (Nat.lt_succ_self _) (by have := D1.out.size; simp <;> omega)) HRV.out E1.out _ rfl)
                | exact Lib.hid ⟨we.heap.size, rk, rg, ra, rn, rc, rx, rfl, rfl, Blk.new _ _ _, fun m hm => (by obtain ⟨neg, l, hi, hn⟩ := HRV.out m hm; exact ⟨neg, l, (hi.base (Nat.zero_le _)).below ((Below.refl we.heap.size we).alloc (Nat.le_refl _) _), hn⟩), E1.out.alloc E1.out.size _⟩
            case rest =>
              obtain ⟨p, vk, vg, va, vn, vc, vx, rfl, rfl, hkp, hvv, hb4⟩ := hcut.out
              have C0 := Lib.hid hb4
              have HKP := Lib.hid hkp
              have HVV := Lib.hid hvv
              obtain ⟨⟨i0, i1, i2, i3, i4, i5⟩, j0, j1, j2, j3, j4, j5⟩ := HCELL.out wc C0.out
              have HTC := Lib.hid (text_count S T _ _ (.agg #[.int .i64 kk1, .bool g1, .slice aa1 nn1 cc1, .int .u64 0, .string xx1, .slice none 0 0]) (.agg #[.int .i64 kk2, .bool g2, .slice aa2 nn2 cc2, .int .u64 0, .string xx2, .slice none 0 0]) q1 q2 wc HS.out HT.out.1 HO1.out HO2.out (HP1.out.below hb4) (HP2.out.below hb4))
              have HM : Hid (∀ m, r = some m → m ≤ 1000) := fun m hm => countR_le HS.out (HR.out.symm.trans hm)
              clear hkp hvv hb4 hcut
              go_wp2_with fail
              refine HTC.out.mono ?_
              rintro e w5 ⟨he, hb5⟩
              rw [← HR.out] at he
              subst he
              have C1 := Lib.hid (C0.out.trans (hb5.mono C0.out.size))
              have HK5 := Lib.hid (HKP.out.below hb5 HKP.out.lt)
              have HL5 := Lib.hid hb5
              clear hb5
              go_wp2_with fail
              refine (text_count ⟨#[97, 97]⟩ ⟨#[97]⟩ 0 0 pNone pNone .none .none w5 (by refine ⟨by decide, ?_⟩; decide) (by decide) trivial trivial rfl rfl).mono ?_
              rintro e w6 ⟨he, hb6⟩
              rw [show countR ⟨#[97, 97]⟩ ⟨#[97]⟩ .none .none = some 2 by decide] at he
              subst he
              have C2 := Lib.hid (C1.out.trans (hb6.mono C1.out.size))
              have HK6 := Lib.hid (HK5.out.below hb6 HK5.out.lt)
              have HL6 := Lib.hid (HL5.out.trans (hb6.mono HL5.out.size))
              obtain ⟨k0, k1', k2', k3, k4, k5, _, _, _, _, _, _⟩ := blk6 HK6.out
              clear hb6
              rcases r with _ | m
              · go_wp2_with fail
                go_ret
                exact ⟨rfl, HW.out.trans (C2.out.mono HW.out.size)⟩
              · have hm := HM.out m rfl
                obtain ⟨neg, l, hi, hn⟩ := HVV.out m rfl
                have HI := Lib.hid (hi.below HL6.out)
                have HN := Lib.hid hn
                clear hi hn
                go_wp2_with fail
                refine (number_of _ _ neg l m w6 HI.out HN.out hm).mono ?_
                rintro e w7 ⟨rfl, hb7⟩
                have C3 := Lib.hid (C2.out.trans (hb7.mono C2.out.size))
                go_wp2_with fail
                go_ret
                exact ⟨rfl, HW.out.trans (C3.out.mono HW.out.size)⟩
end Go.Proofs.YthoemgnfklhgjaaGreat
