/- The reference's steps of a list that a tuple has too. -/
import Derived.Test.YteibkaonofkcbaaGreatWalkT
import Derived.Test.YteibkaonofkcbaaGreatCutT
import Derived.Deep.RegionHeld3
import Derived.Deep.DeepCutAuto
import Derived.BigQuiet
namespace Go.Proofs.YteibkaonofkcbaaGreat
open Go.RowKit
set_option linter.unusedSimpArgs false
set_option linter.unusedVariables false
attribute [local go_sem ↓] Go.wp_at_zero Go.wp_at_succ
theorem keep6 {S : Nat → Prop} {a w : World} {g : Nat} {d3 d4 d5 d6 d7 d8 : Value} (h : Only S a w) (hg : S g ∨ a.heap.size ≤ g) : Only S a ((((((w.setCell ⟨g, 3, none⟩ d3).setCell ⟨g, 4, none⟩ d4).setCell ⟨g, 5, none⟩ d5).setCell ⟨g, 6, none⟩ d6).setCell ⟨g, 7, none⟩ d7).setCell ⟨g, 8, none⟩ d8) :=
  (((((h.setCell (p := ⟨g, 3, none⟩) hg d3).setCell (p := ⟨g, 4, none⟩) hg d4).setCell (p := ⟨g, 5, none⟩) hg d5).setCell (p := ⟨g, 6, none⟩) hg d6).setCell (p := ⟨g, 7, none⟩) hg d7).setCell (p := ⟨g, 8, none⟩) hg d8
theorem RowX.far {w w' : World} {B g : Nat} {t : TypeId} {cs : Array Value} {v : Value} {ps : List (Value × Sx)} (h : RowX w B v ps) (hg : Blk w g t cs) (h1 : 5 ≠ t) (h2 : 33 ≠ t) (k : Only (· = g) w w') : RowX w' B v ps :=
  ⟨own_only h.1 k (fun q hq e => own_ne_blk h.1 hg h2 q hq e), fun p hp => (h.2 p hp).far hg h1 k⟩
def EndR (n S : Nat) (w0 wx : World) : Prop := ∃ i j m : Int, Bnd n i j m ∧ Blk wx S 35 #[.int .i64 27, .int .i64 i, .int .i64 j, .int .i64 m, .int .i64 0, .bool false, .slice none 0 0, .int .u64 0, .string ⟨#[]⟩, .slice none 0 0, .int .i64 0, .bool false, .slice none 0 0, .int .u64 0, .string ⟨#[]⟩, .slice none 0 0, .slice none 0 0] ∧ Only (· = S) w0 wx
set_option maxRecDepth 20000 in
theorem fixed_any (B G : Nat) (v : Value) (at' : List (Option Nat)) (w : World) (h : GuardB w B G v at') :
    Calls Tryz.prog 14 #[.pointer (some ⟨G, 0, none⟩)] w fun e w' => (∃ b, e = .returned (.bool b)) ∧ w = w' := by
  obtain ⟨op, hop⟩ : ∃ op, op = openN at' := ⟨_, rfl⟩
  have hk := h.1
  rw [← hop] at hk
  obtain ⟨c0, c1, c2, f0, f1, f2⟩ := blk_grd hk
  clear h hk hop
  go_enter Tryz.func14, Tryz.ntmps14
  go_wp2
  go_ret
  exact ⟨⟨_, rfl⟩, rfl⟩
def sl_zeroP (S : Nat) (sj sm : Int) (w : World) (e : Ending) (w' : World) : Prop := ∃ si : Int, e = .returned (.agg #[.bool true, .bool false, .int .i64 0, .int .i64 0, .bool false, .slice none 0 0, .int .u64 0, .string ⟨#[]⟩, .slice none 0 0, .slice none 0 0]) ∧ Blk w' S 35 #[.int .i64 4, .int .i64 si, .int .i64 sj, .int .i64 sm, .int .i64 0, .bool false, .slice none 0 0, .int .u64 0, .string ⟨#[]⟩, .slice none 0 0, .int .i64 0, .bool false, .slice none 0 0, .int .u64 0, .string ⟨#[]⟩, .slice none 0 0, .slice none 0 0] ∧ Only (· = S) w w'
set_option maxRecDepth 100000 in
set_option maxHeartbeats 8000000 in
theorem sl_zero (S L : Nat) (si sj sm : Int) (r0 r1 r2 r3 r4 r5 r6 r7 r8 r9 r10 r11 r12 r13 r14 r15 r16 : Value) (fx : Bool) (ia : Option Addr) (n ic : Nat) (w : World) (hs : Blk w S 35 #[.int .i64 2, .int .i64 si, .int .i64 sj, .int .i64 sm, .int .i64 0, .bool false, .slice none 0 0, .int .u64 0, .string ⟨#[]⟩, .slice none 0 0, .int .i64 0, .bool false, .slice none 0 0, .int .u64 0, .string ⟨#[]⟩, .slice none 0 0, .slice none 0 0]) (hL : Blk w L 22 #[.slice ia n ic]) (hn : n = 0) :
    Calls Tryz.prog 13 #[.pointer (some ⟨S, 0, none⟩), .agg #[r0, r1, r2, r3, r4, r5, r6, r7, r8, r9, r10, r11, r12, r13, r14, r15, r16], .pointer (some ⟨L, 0, none⟩), .bool fx] w (sl_zeroP S sj sm w) := by
  subst hn
  have c0 : w.cell? ⟨S, 0, none⟩ = some (.int .i64 2) := (hs.cell 0).trans rfl
  have e0 : w.frozen? ⟨S, 0, none⟩ = false := hs.frozen 0
  have l0 : w.cell? ⟨L, 0, none⟩ = some (.slice ia 0 ic) := (hL.cell 0).trans rfl
  have hl := hs.lt
  have hLl := hL.lt
  have hl1 : S < w.heap.size + 1 := by omega
  have hl2 : S < w.heap.size + 1 + 1 := by omega
  have hL1 : L < w.heap.size + 1 := by omega
  have hL2 : L < w.heap.size + 1 + 1 := by omega
  have HS := Lib.hid hs
  clear hs hL
  go_enter Tryz.func13, Tryz.ntmps13
  go_wp2
  refine bodyPost_ret (v := .agg #[.bool true, .bool false, .int .i64 0, .int .i64 0, .bool false, .slice none 0 0, .int .u64 0, .string ⟨#[]⟩, .slice none 0 0, .slice none 0 0]) (by simp [results, Tryz.results13, go_sem]) rfl ⟨si, rfl, (((Blk.put HS.out 0 _).alloc _).alloc _).alloc _, ?_⟩
  exact ((((Only.refl (· = S) w).setCell (p := ⟨S, 0, none⟩) (.inl rfl) _).alloc _).alloc _).alloc _
def sl_indexP (S : Nat) (sj sm : Int) (ps : List (Value × Sx)) (w : World) (e : Ending) (w' : World) : Prop :=
  ∃ (i : Nat) (h : i < ps.length) (k : Int) (neg : Bool) (aa : Option Addr) (mm cc : Nat) (b : Int) (tx : ByteArray), (ps[i]'h).1 = pv k neg aa mm cc b tx none 0 0 ∧ e = .returned (.agg #[.bool true, .bool false, .int .i64 0, .int .i64 k, .bool neg, .slice aa mm cc, .int .u64 b, .string tx, .slice none 0 0, .slice none 0 0]) ∧ Blk w' S 35 #[.int .i64 2, .int .i64 (i : Int), .int .i64 sj, .int .i64 sm, .int .i64 0, .bool false, .slice none 0 0, .int .u64 0, .string ⟨#[]⟩, .slice none 0 0, .int .i64 0, .bool false, .slice none 0 0, .int .u64 0, .string ⟨#[]⟩, .slice none 0 0, .slice none 0 0] ∧ Only (· = S) w w'
set_option maxRecDepth 100000 in
set_option maxHeartbeats 8000000 in
theorem sl_index (S L : Nat) (si sj sm : Int) (r0 r1 r2 r3 r4 r5 r6 r7 r8 r9 r10 r11 r12 r13 r14 r15 r16 : Value) (fx : Bool) (ia : Option Addr) (n ic : Nat) (w : World) (B : Nat) (ps : List (Value × Sx)) (hx : RowX w B (.slice ia n ic) ps) (hp : ps.length = n) (hs : Blk w S 35 #[.int .i64 2, .int .i64 si, .int .i64 sj, .int .i64 sm, .int .i64 0, .bool false, .slice none 0 0, .int .u64 0, .string ⟨#[]⟩, .slice none 0 0, .int .i64 0, .bool false, .slice none 0 0, .int .u64 0, .string ⟨#[]⟩, .slice none 0 0, .slice none 0 0]) (hL : Blk w L 22 #[.slice ia n ic]) (hn : 0 < n) (hn8 : n ≤ 8) :
    Calls Tryz.prog 13 #[.pointer (some ⟨S, 0, none⟩), .agg #[r0, r1, r2, r3, r4, r5, r6, r7, r8, r9, r10, r11, r12, r13, r14, r15, r16], .pointer (some ⟨L, 0, none⟩), .bool fx] w (sl_indexP S sj sm ps w) := by
  have dn1 : decide (0 < (n : Int)) = true := by simp; omega
  have dn2 : decide (0 < n) = true := by simp; omega
  obtain ⟨w0, hw0⟩ : ∃ w0, w0 = (((w.alloc (.cells #[r0, r1, r2, r3, r4, r5, r6, r7, r8, r9, r10, r11, r12, r13, r14, r15, r16] 35)).alloc (.cells #[.bool false, .bool false, .int .i64 0, .int .i64 0, .bool false, .slice none 0 0, .int .u64 0, .string ⟨#[]⟩, .slice none 0 0, .slice none 0 0] 37)).alloc (.cells #[.bool true, .bool false, .int .i64 0, .int .i64 0, .bool false, .slice none 0 0, .int .u64 0, .string ⟨#[]⟩, .slice none 0 0, .slice none 0 0] 37)) := ⟨_, rfl⟩
  have HB0 : Hid (Below w.heap.size w w0) := by rw [hw0]; exact (((Below.refl w.heap.size w).alloc (Nat.le_refl _) _).alloc (by simp) _).alloc (by simp; omega) _
  have HK6 : Hid (Blk w0 (w.heap.size + 1) 37 #[.bool false, .bool false, .int .i64 0, .int .i64 0, .bool false, .slice none 0 0, .int .u64 0, .string ⟨#[]⟩, .slice none 0 0, .slice none 0 0]) := by rw [hw0]; exact (Blk.new_at _ _ _ (by simp)).alloc _
  have HK8 : Hid (Blk w0 (w.heap.size + 1 + 1) 37 #[.bool true, .bool false, .int .i64 0, .int .i64 0, .bool false, .slice none 0 0, .int .u64 0, .string ⟨#[]⟩, .slice none 0 0, .slice none 0 0]) := by rw [hw0]; exact Blk.new_at _ _ _ (by simp)
  have HZ0 : Hid (w0.heap.size = w.heap.size + 3) := by rw [hw0]; simp [Hid]
  have hs0 := hs.below HB0.out hs.lt
  have hL0 := hL.below HB0.out hL.lt
  have hl := hs.lt
  have hLl := hL.lt
  have hl1 : S < w.heap.size + 1 := by omega
  have hl2 : S < w.heap.size + 1 + 1 := by omega
  have hL1 : L < w.heap.size + 1 := by omega
  have hL2 : L < w.heap.size + 1 + 1 := by omega
  have c0 : w.cell? ⟨S, 0, none⟩ = some (.int .i64 2) := (hs.cell 0).trans rfl
  have c1 : w.cell? ⟨S, 1, none⟩ = some (.int .i64 si) := (hs.cell 1).trans rfl
  have b0 : w0.cell? ⟨S, 0, none⟩ = some (.int .i64 2) := (hs0.cell 0).trans rfl
  have b1 : w0.cell? ⟨S, 1, none⟩ = some (.int .i64 si) := (hs0.cell 1).trans rfl
  have f0 : w0.frozen? ⟨S, 0, none⟩ = false := hs0.frozen 0
  have f1 : w0.frozen? ⟨S, 1, none⟩ = false := hs0.frozen 1
  have e0 : w.frozen? ⟨S, 0, none⟩ = false := hs.frozen 0
  have e1 : w.frozen? ⟨S, 1, none⟩ = false := hs.frozen 1
  have l0 : w.cell? ⟨L, 0, none⟩ = some (.slice ia n ic) := (hL.cell 0).trans rfl
  have l0' : w0.cell? ⟨L, 0, none⟩ = some (.slice ia n ic) := (hL0.cell 0).trans rfl
  have n1 : ¬ S = w.heap.size := by omega
  have n2 : ¬ S = w.heap.size + 1 := by omega
  have n3 : ¬ S = w.heap.size + 1 + 1 := by omega
  have n1' : ¬ w.heap.size = S := by omega
  have n2' : ¬ w.heap.size + 1 = S := by omega
  have n3' : ¬ w.heap.size + 1 + 1 = S := by omega
  have m1 : ¬ L = w.heap.size := by omega
  have m2 : ¬ L = w.heap.size + 1 := by omega
  have m3 : ¬ L = w.heap.size + 1 + 1 := by omega
  have n5 : ¬ L = S := by
    intro e
    subst e
    have := hs.symm.trans hL
    injection this with h
    injection h with _ h
    exact absurd h (by decide)
  have n5' : ¬ S = L := fun e => n5 e.symm
  have HS0 := Lib.hid hs0
  have HL0 := Lib.hid hL0
  have HX0 := Lib.hid (hx.below HB0.out)
  have HP := Lib.hid hp
  have nXS := Lib.hid (own_ne_blk hx.1 hs (by decide))
  have HXW := Lib.hid (fun q hq => (hx.1.lt q hq).2)
  have HT := Lib.hid (turn_any si (n : Int) w0 (by omega) (by omega))
  clear hs hL hs0 hL0 hx hp
  have HB9 := HB0
  go_enter Tryz.func13, Tryz.ntmps13
  go_wp2_with fail
  rw [← hw0]
  clear hw0
  refine HT.out.mono ?_
  rintro e w1 ⟨r, rfl, hr0, hr1, rfl⟩
  clear HT
  obtain ⟨j, rfl⟩ : ∃ j : Nat, r = (j : Int) := ⟨r.toNat, by omega⟩
  have hjl : j < ps.length := by have := HP.out; omega
  obtain ⟨g, cap, neg, aa, mm, cc, b, tx, hve, hgl, hpe, i0, i1, i2, i3, i4, i5⟩ := HX0.out.at j hjl
  obtain ⟨k, hk⟩ : ∃ k, k = kx (ps[j]'hjl).2 := ⟨_, rfl⟩
  rw [← hk] at hpe i0
  injection hve with ha hb1 hb2
  subst ha
  clear hb1 hb2
  have HPE := Lib.hid hpe
  clear hpe hk
  have HGS : Hid (¬ g = S) := fun e => nXS.out g rfl e
  have HX2 := Lib.hid HX0.out.1
  have HIC : Hid (w0.cell? ⟨g, j * 6, none⟩ = some (.int .i64 k) ∧ w0.cell? ⟨g, j * 6 + 1, none⟩ = some (.bool neg) ∧ w0.cell? ⟨g, j * 6 + 2, none⟩ = some (.slice aa mm cc) ∧ w0.cell? ⟨g, j * 6 + 3, none⟩ = some (.int .u64 b) ∧ w0.cell? ⟨g, j * 6 + 4, none⟩ = some (.string tx) ∧ w0.cell? ⟨g, j * 6 + 5, none⟩ = some (.slice none 0 0)) := ⟨i0, i1, i2, i3, i4, i5⟩
  clear i0 i1 i2 i3 i4 i5
  go_wp2_with fail
  obtain ⟨X1, hX1⟩ : ∃ X1, X1 = w0.setCell ⟨S, 1, none⟩ (.int .i64 (j : Int)) := ⟨_, rfl⟩
  have hO1 : Only (· = S) w0 X1 := by rw [hX1]; exact (Only.refl (· = S) w0).setCell (p := ⟨S, 1, none⟩) (.inl rfl) _
  have HSX : Hid (Blk X1 S 35 #[.int .i64 2, .int .i64 (j : Int), .int .i64 sj, .int .i64 sm, .int .i64 0, .bool false, .slice none 0 0, .int .u64 0, .string ⟨#[]⟩, .slice none 0 0, .int .i64 0, .bool false, .slice none 0 0, .int .u64 0, .string ⟨#[]⟩, .slice none 0 0, .slice none 0 0]) := by rw [hX1]; exact Blk.put HS0.out 1 _
  have HLX : Hid (Blk X1 L 22 #[.slice (some ⟨g, 0, none⟩) n ic]) := HL0.out.only hO1 n5
  have HOX := Lib.hid hO1
  have hgW := HXW.out g rfl
  have m4 : ¬ g = w.heap.size + 1 + 1 := by omega
  have HC : Hid (∀ W, Only (· = w.heap.size + 1 + 1) X1 W → W.cell? ⟨L, 0, none⟩ = some (.slice (some ⟨g, 0, none⟩) n ic) ∧ W.cell? ⟨S, 1, none⟩ = some (.int .i64 (j : Int)) ∧ W.cell? ⟨g, j * 6, none⟩ = some (.int .i64 k) ∧ W.cell? ⟨g, j * 6 + 1, none⟩ = some (.bool neg) ∧ W.cell? ⟨g, j * 6 + 2, none⟩ = some (.slice aa mm cc) ∧ W.cell? ⟨g, j * 6 + 3, none⟩ = some (.int .u64 b) ∧ W.cell? ⟨g, j * 6 + 4, none⟩ = some (.string tx) ∧ W.cell? ⟨g, j * 6 + 5, none⟩ = some (.slice none 0 0)) := fun W h => by
    have e : ∀ q v, w0.cell? ⟨g, q, none⟩ = some v → W.cell? ⟨g, q, none⟩ = some v := fun q v hq => by
      have l1 := HB9.out.size
      have l2 := hO1.size
      exact (World.cell?_of_block (h.block g (by omega) m4)).trans ((World.cell?_of_block (hO1.block g (by omega) HGS.out)).trans hq)
    obtain ⟨i0, i1, i2, i3, i4, i5⟩ := HIC.out
    exact ⟨((HLX.out.only h m3).cell 0).trans rfl, ((HSX.out.only h n3).cell 1).trans rfl, e _ _ i0, e _ _ i1, e _ _ i2, e _ _ i3, e _ _ i4, e _ _ i5⟩
  have HO1 := Lib.hid (Only.refl (· = w.heap.size + 1 + 1) X1).drew
  have hk6 := HK6.out.only hO1 n2'
  have hk8 := HK8.out.only hO1 n3'
  obtain ⟨p0, p1, p2, p3, p4, p5, p6, p7, p8, p9, q0, q1, q2, q3, q4, q5, q6, q7, q8, q9⟩ := blk_ten hk6
  obtain ⟨t0, t1, t2, t3, t4, t5, t6, t7, t8, t9, u0, u1, u2, u3, u4, u5, u6, u7, u8, u9⟩ := blk_ten hk8
  have hj0 : (0 : Int) ≤ (j : Int) := by omega
  rw [← hX1]
  clear hX1 hO1 hk6 hk8 m4 hgW l0 l0' c0 c1 e0 e1 b0 b1 f0 f1
  go_region_held3 (fun W => W.cell? ⟨L, 0, none⟩ = some (.slice (some ⟨g, 0, none⟩) n ic) ∧ W.cell? ⟨S, 1, none⟩ = some (.int .i64 (j : Int)) ∧ W.cell? ⟨g, j * 6, none⟩ = some (.int .i64 k) ∧ W.cell? ⟨g, j * 6 + 1, none⟩ = some (.bool neg) ∧ W.cell? ⟨g, j * 6 + 2, none⟩ = some (.slice aa mm cc) ∧ W.cell? ⟨g, j * 6 + 3, none⟩ = some (.int .u64 b) ∧ W.cell? ⟨g, j * 6 + 4, none⟩ = some (.string tx) ∧ W.cell? ⟨g, j * 6 + 5, none⟩ = some (.slice none 0 0))
    (first | exact HC.out _ HO1.out | exact HC.out _ (keep6 (Only.refl (· = w.heap.size + 1 + 1) X1) (.inl rfl)).drew | go_keep) (fail)
  go_wp2
  refine bodyPost_ret (v := .agg #[.bool true, .bool false, .int .i64 0, .int .i64 k, .bool neg, .slice aa mm cc, .int .u64 b, .string tx, .slice none 0 0, .slice none 0 0]) (by simp [results, Tryz.results13, go_sem, p0, p1, p2, p3, p4, p5, p6, p7, p8, p9]) rfl ⟨j, hjl, k, neg, aa, mm, cc, b, tx, HPE.out, rfl, ?_, ?_⟩
  · exact (ten_blk (HSX.out.only (keep6 (Only.refl (· = w.heap.size + 1 + 1) X1) (.inl rfl)) n3) n2).drew
  · exact (ten_keep (keep6 ((Only.of_below (S := (· = S)) HB9.out).trans HOX.out) (.inr (by omega))) (.inr (Nat.le_succ _))).drew
end Go.Proofs.YteibkaonofkcbaaGreat
