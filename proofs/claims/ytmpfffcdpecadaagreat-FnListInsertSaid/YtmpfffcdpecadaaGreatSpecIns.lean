/- The reference's insert. -/
import Derived.Test.YtmpfffcdpecadaaGreatNumX
import Derived.Test.YtmpfffcdpecadaaGreatSegs
import Derived.Test.YtmpfffcdpecadaaGreatInsert
import Derived.RegionTactic
import Derived.ChangeAlike
namespace Go.Proofs.YtmpfffcdpecadaaGreat
open Go.RowKit
attribute [local go_sem ↓] Go.wp_at_zero Go.wp_at_succ
/-- What the reference answers. -/
def SpecInsPost (l : List Sx) (s0 s1 : Sx) (w : World) (e : Ending) (w' : World) : Prop :=
  ∃ q m c, e = .returned (.tuple #[pv 0 false none 0 0 0 ⟨#[]⟩ none 0 0, pv 6 false none 0 0 0 ⟨#[]⟩ q m c, .bool (idxX s0).isSome]) ∧
    (∀ k, idxX s0 = some k → ∃ qs, RowR w' w.heap.size (.slice q m c) qs ∧ qs.map (·.2) = insL l (placeL l.length k) s1) ∧ Below w.heap.size w w'
/-- A value's six cells at a place of a block. -/
def SixAt (w : World) (A o : Nat) (k : Int) (neg : Bool) (a : Option Addr) (n c : Nat) (b : Int) (tx : ByteArray) : Prop :=
  w.cell? ⟨A, o, none⟩ = some (.int .i64 k) ∧ w.cell? ⟨A, o + 1, none⟩ = some (.bool neg) ∧ w.cell? ⟨A, o + 2, none⟩ = some (.slice a n c) ∧ w.cell? ⟨A, o + 3, none⟩ = some (.int .u64 b) ∧ w.cell? ⟨A, o + 4, none⟩ = some (.string tx) ∧ w.cell? ⟨A, o + 5, none⟩ = some (.slice none 0 0)
theorem SixAt.below {w w' : World} {A o : Nat} {k : Int} {neg : Bool} {a : Option Addr} {n c : Nat} {b : Int} {tx : ByteArray} (h : SixAt w A o k neg a n c b tx) (hA : A < w.heap.size) (hb : Below w.heap.size w w') : SixAt w' A o k neg a n c b tx := by
  obtain ⟨h0, h1, h2, h3, h4, h5⟩ := h
  exact ⟨(hb.cell (p := ⟨A, _, none⟩) hA).trans h0, (hb.cell (p := ⟨A, _, none⟩) hA).trans h1, (hb.cell (p := ⟨A, _, none⟩) hA).trans h2, (hb.cell (p := ⟨A, _, none⟩) hA).trans h3, (hb.cell (p := ⟨A, _, none⟩) hA).trans h4, (hb.cell (p := ⟨A, _, none⟩) hA).trans h5⟩
theorem two_six {w : World} {g h : Nat} {t : TypeId} {a b c d e f a' b' c' d' e' f' : Value} (hg : Blk w g t #[a, b, c, d, e, f]) (hh : Blk w h t #[a', b', c', d', e', f']) (hne : g ≠ h) (u0 u1 u2 u3 u4 u5 v0 v1 v2 v3 v4 v5 : Value) (W : World)
    (hW : W = ((((((((((((w.setCell ⟨g, 0, none⟩ u0).setCell ⟨g, 1, none⟩ u1).setCell ⟨g, 2, none⟩ u2).setCell ⟨g, 3, none⟩ u3).setCell ⟨g, 4, none⟩ u4).setCell ⟨g, 5, none⟩ u5).setCell ⟨h, 0, none⟩ v0).setCell ⟨h, 1, none⟩ v1).setCell ⟨h, 2, none⟩ v2).setCell ⟨h, 3, none⟩ v3).setCell ⟨h, 4, none⟩ v4).setCell ⟨h, 5, none⟩ v5).drew) : Blk W g t #[u0, u1, u2, u3, u4, u5] ∧ Blk W h t #[v0, v1, v2, v3, v4, v5] ∧ Only (fun q => q = g ∨ q = h) w W := by
  have o1 := six_set w g u0 u1 u2 u3 u4 u5
  have k1 : Blk ((((((w.setCell ⟨g, 0, none⟩ u0).setCell ⟨g, 1, none⟩ u1).setCell ⟨g, 2, none⟩ u2).setCell ⟨g, 3, none⟩ u3).setCell ⟨g, 4, none⟩ u4).setCell ⟨g, 5, none⟩ u5) g t #[u0, u1, u2, u3, u4, u5] := (((((hg.put 0 u0).put 1 u1).put 2 u2).put 3 u3).put 4 u4).put 5 u5
  have k2 := hh.only o1 (fun e => hne e.symm)
  have o2 := six_set ((((((w.setCell ⟨g, 0, none⟩ u0).setCell ⟨g, 1, none⟩ u1).setCell ⟨g, 2, none⟩ u2).setCell ⟨g, 3, none⟩ u3).setCell ⟨g, 4, none⟩ u4).setCell ⟨g, 5, none⟩ u5) h v0 v1 v2 v3 v4 v5
  have k3 : Blk ((((((((((((w.setCell ⟨g, 0, none⟩ u0).setCell ⟨g, 1, none⟩ u1).setCell ⟨g, 2, none⟩ u2).setCell ⟨g, 3, none⟩ u3).setCell ⟨g, 4, none⟩ u4).setCell ⟨g, 5, none⟩ u5).setCell ⟨h, 0, none⟩ v0).setCell ⟨h, 1, none⟩ v1).setCell ⟨h, 2, none⟩ v2).setCell ⟨h, 3, none⟩ v3).setCell ⟨h, 4, none⟩ v4).setCell ⟨h, 5, none⟩ v5) h t #[v0, v1, v2, v3, v4, v5] := (((((k2.put 0 v0).put 1 v1).put 2 v2).put 3 v3).put 4 v4).put 5 v5
  have k4 := k1.only o2 hne
  subst hW
  exact ⟨k4.drew, k3.drew, ((o1.mono (fun q _ e => .inl e)).trans (o2.mono (fun q _ e => .inr e))).drew⟩
theorem two_six' {w : World} {g h : Nat} {t : TypeId} {a b c d e f a' b' c' d' e' f' : Value} (hg : Blk w g t #[a, b, c, d, e, f]) (hh : Blk w h t #[a', b', c', d', e', f']) (hne : g ≠ h) (u0 u1 u2 u3 u4 u5 v0 v1 v2 v3 v4 v5 : Value) (W : World)
    (hW : W = ((((((((((((w.setCell ⟨g, 0, none⟩ u0).setCell ⟨g, 1, none⟩ u1).setCell ⟨g, 2, none⟩ u2).setCell ⟨g, 3, none⟩ u3).setCell ⟨g, 4, none⟩ u4).setCell ⟨g, 5, none⟩ u5).setCell ⟨h, 0, none⟩ v0).setCell ⟨h, 1, none⟩ v1).setCell ⟨h, 2, none⟩ v2).setCell ⟨h, 3, none⟩ v3).setCell ⟨h, 4, none⟩ v4).setCell ⟨h, 5, none⟩ v5)) : Blk W g t #[u0, u1, u2, u3, u4, u5] ∧ Blk W h t #[v0, v1, v2, v3, v4, v5] ∧ Only (fun q => q = g ∨ q = h) w W := by
  obtain ⟨x1, x2, x3⟩ := two_six hg hh hne u0 u1 u2 u3 u4 u5 v0 v1 v2 v3 v4 v5 W.drew (by rw [hW])
  exact ⟨x1, x2, ⟨x3.os, x3.tape, x3.output, x3.size, x3.block⟩⟩
set_option maxRecDepth 100000 in
set_option maxHeartbeats 8000000 in
theorem spec_ins_no (w : World) (B A ca : Nat) (ka : Option Addr) (kc : Nat) (ps : List (Value × Sx)) (s0 s1 : Sx) (n0 n1 : Bool) (a0 a1 : Option Addr) (m0 c0 m1 c1 : Nat) (b0 b1 : Int) (x0 x1 : ByteArray)
    (hR : RowR w B (.slice ka ps.length kc) ps) (hl : ps.length ≤ 100) (hA : A < w.heap.size) (h0 : SixAt w A 0 (kx s0) n0 a0 m0 c0 b0 x0) (h1 : SixAt w A 6 (kx s1) n1 a1 m1 c1 b1 x1)
    (v0 : XVal w 0 (pv (kx s0) n0 a0 m0 c0 b0 x0 none 0 0) s0) (v1 : XVal w 0 (pv (kx s1) n1 a1 m1 c1 b1 x1 none 0 0) s1) (hno : idxX s0 = none) :
    Calls Tryz.prog 40 #[pv 6 false none 0 0 0 ⟨#[]⟩ ka ps.length kc, .slice (some ⟨A, 0, none⟩) 2 ca] w (SpecInsPost (ps.map (·.2)) s0 s1 w) := by
  obtain ⟨k0, hk0⟩ : ∃ k, k = kx s0 := ⟨_, rfl⟩
  obtain ⟨k1, hk1⟩ : ∃ k, k = kx s1 := ⟨_, rfl⟩
  rw [← hk0] at h0 v0
  rw [← hk1] at h1 v1
  obtain ⟨n, hn⟩ : ∃ n, n = ps.length := ⟨_, rfl⟩
  rw [← hn] at hl hR ⊢
  have HN := Lib.hid hn
  have HAL : Hid (Below w.heap.size w (((w.alloc (.cells #[.int .i64 6, .bool false, .slice none 0 0, .int .u64 0, .string ⟨#[]⟩, .slice ka n kc] 26)).alloc (.cells #[.int .i64 0, .bool false, .slice none 0 0, .int .u64 0, .string ⟨#[]⟩, .slice none 0 0] 26)).alloc (.cells #[.int .i64 0, .bool false, .slice none 0 0, .int .u64 0, .string ⟨#[]⟩, .slice none 0 0] 26))) := (((Below.refl _ _).alloc (Nat.le_refl _) _).alloc (by simp) _).alloc (by simp; omega) _
  have HBX := Lib.hid (((Blk.new w 26 #[.int .i64 6, .bool false, .slice none 0 0, .int .u64 0, .string ⟨#[]⟩, .slice ka n kc]).alloc (.cells #[.int .i64 0, .bool false, .slice none 0 0, .int .u64 0, .string ⟨#[]⟩, .slice none 0 0] 26)).alloc (.cells #[.int .i64 0, .bool false, .slice none 0 0, .int .u64 0, .string ⟨#[]⟩, .slice none 0 0] 26))
  have HBY := Lib.hid ((Blk.new_at (w.alloc (.cells #[.int .i64 6, .bool false, .slice none 0 0, .int .u64 0, .string ⟨#[]⟩, .slice ka n kc] 26)) 26 #[.int .i64 0, .bool false, .slice none 0 0, .int .u64 0, .string ⟨#[]⟩, .slice none 0 0] (n := w.heap.size + 1) (by simp)).alloc (.cells #[.int .i64 0, .bool false, .slice none 0 0, .int .u64 0, .string ⟨#[]⟩, .slice none 0 0] 26))
  have HBZ := Lib.hid (Blk.new_at ((w.alloc (.cells #[.int .i64 6, .bool false, .slice none 0 0, .int .u64 0, .string ⟨#[]⟩, .slice ka n kc] 26)).alloc (.cells #[.int .i64 0, .bool false, .slice none 0 0, .int .u64 0, .string ⟨#[]⟩, .slice none 0 0] 26)) 26 #[.int .i64 0, .bool false, .slice none 0 0, .int .u64 0, .string ⟨#[]⟩, .slice none 0 0] (n := w.heap.size + 1 + 1) (by simp))
  have HW := Lib.hid (whole64_x _ s0 _ (v0.below HAL.out))
  obtain ⟨t0, t1, t2, t3, t4, t5⟩ := h0.below hA HAL.out
  simp only [Nat.zero_add] at t1 t2 t3 t4 t5
  have H0 := Lib.hid h0
  have H1 := Lib.hid h1
  have HV1 := Lib.hid v1
  have HR := Lib.hid hR
  unfold pv at HW ⊢
  clear hR h0 h1 v0 v1 hk0 hk1 hn
  go_enter Tryz.func40, Tryz.ntmps40
  go_wp2_with fail
  refine (arity_two _ _ _).mono ?_
  rintro e w' ⟨rfl, rfl⟩
  go_wp2_with fail
  refine HW.out.mono ?_
  rintro e w1 ⟨⟨k, rfl, hk⟩, hb1⟩
  have HB1 := Lib.hid (HAL.out.trans (hb1.mono HAL.out.size))
  have HBX1 := Lib.hid (HBX.out.below hb1 HBX.out.lt)
  have HBY1 := Lib.hid (HBY.out.below hb1 HBY.out.lt)
  have HBZ1 := Lib.hid (HBZ.out.below hb1 HBZ.out.lt)
  have HKK := Lib.hid hk
  obtain ⟨e0, e1, e2, e3, e4, e5, g0, g1, g2, g3, g4, g5⟩ := blk6 HBX1.out
  obtain ⟨y0, y1, y2, y3, y4, y5, yg0, yg1, yg2, yg3, yg4, yg5⟩ := blk6 HBY1.out
  obtain ⟨z0, z1, z2, z3, z4, z5, zg0, zg1, zg2, zg3, zg4, zg5⟩ := blk6 HBZ1.out
  have hltz : w.heap.size + 1 + 1 < w1.heap.size := HBZ1.out.lt
  have hltx : w.heap.size < w1.heap.size := HBX1.out.lt
  have hlty : w.heap.size + 1 < w1.heap.size := HBY1.out.lt
  clear hb1 hk t0 t1 t2 t3 t4 t5
  have HNO := Lib.hid hno
  rw [hno]
  clear hno
  go_wp2_with fail
  go_region
  all_goals
    obtain ⟨W, hW⟩ : ∃ x, x = ((((((((((((w1.setCell ⟨w.heap.size + 1, 0, none⟩ (.int .i64 0)).setCell ⟨w.heap.size + 1, 1, none⟩ (.bool false)).setCell ⟨w.heap.size + 1, 2, none⟩ (.slice none 0 0)).setCell ⟨w.heap.size + 1, 3, none⟩ (.int .u64 0)).setCell ⟨w.heap.size + 1, 4, none⟩ (.string ⟨#[]⟩)).setCell ⟨w.heap.size + 1, 5, none⟩ (.slice none 0 0)).setCell ⟨w.heap.size + 1 + 1, 0, none⟩ (.int .i64 6)).setCell ⟨w.heap.size + 1 + 1, 1, none⟩ (.bool false)).setCell ⟨w.heap.size + 1 + 1, 2, none⟩ (.slice none 0 0)).setCell ⟨w.heap.size + 1 + 1, 3, none⟩ (.int .u64 0)).setCell ⟨w.heap.size + 1 + 1, 4, none⟩ (.string ⟨#[]⟩)).setCell ⟨w.heap.size + 1 + 1, 5, none⟩ (.slice ka n kc)).drew := ⟨_, rfl⟩
    obtain ⟨kk1, kk2, ko⟩ := two_six HBY1.out HBZ1.out (by omega) (.int .i64 0) (.bool false) (.slice none 0 0) (.int .u64 0) (.string ⟨#[]⟩) (.slice none 0 0) (.int .i64 6) (.bool false) (.slice none 0 0) (.int .u64 0) (.string ⟨#[]⟩) (.slice ka n kc) W hW
    rw [← hW]
    have HKO := Lib.hid ko
    clear hW ko y0 y1 y2 y3 y4 y5 yg0 yg1 yg2 yg3 yg4 yg5 z0 z1 z2 z3 z4 z5 zg0 zg1 zg2 zg3 zg4 zg5
    obtain ⟨y0, y1, y2, y3, y4, y5, yg0, yg1, yg2, yg3, yg4, yg5⟩ := blk6 kk1
    obtain ⟨z0, z1, z2, z3, z4, z5, zg0, zg1, zg2, zg3, zg4, zg5⟩ := blk6 kk2
    clear kk1 kk2
    go_wp2
    refine bodyPost_ret (v := .tuple #[.agg #[.int .i64 0, .bool false, .slice none 0 0, .int .u64 0, .string ⟨#[]⟩, .slice none 0 0], .agg #[.int .i64 6, .bool false, .slice none 0 0, .int .u64 0, .string ⟨#[]⟩, .slice ka n kc], .bool false]) (by simp [results, Tryz.results40, go_sem, y0, y1, y2, y3, y4, y5, z0, z1, z2, z3, z4, z5]) rfl ?_
    refine ⟨ka, n, kc, by rw [HNO.out]; rfl, fun k hk => by rw [HNO.out] at hk; simp at hk, ?_⟩
    exact HB1.out.trans (HKO.out.to_below (B := w.heap.size) HB1.out.size (fun q _ e => by rcases e with e | e <;> omega))
set_option maxRecDepth 100000 in
set_option maxHeartbeats 8000000 in
theorem spec_ins_yes (w : World) (B A ca : Nat) (ka : Option Addr) (kc : Nat) (ps : List (Value × Sx)) (s0 s1 : Sx) (n0 n1 : Bool) (a0 a1 : Option Addr) (m0 c0 m1 c1 : Nat) (b0 b1 : Int) (x0 x1 : ByteArray)
    (hR : RowR w B (.slice ka ps.length kc) ps) (hl : ps.length ≤ 100) (hA : A < w.heap.size) (h0 : SixAt w A 0 (kx s0) n0 a0 m0 c0 b0 x0) (h1 : SixAt w A 6 (kx s1) n1 a1 m1 c1 b1 x1)
    (v0 : XVal w 0 (pv (kx s0) n0 a0 m0 c0 b0 x0 none 0 0) s0) (v1 : XVal w 0 (pv (kx s1) n1 a1 m1 c1 b1 x1 none 0 0) s1) (kv : Int) (hyes : idxX s0 = some kv) :
    Calls Tryz.prog 40 #[pv 6 false none 0 0 0 ⟨#[]⟩ ka ps.length kc, .slice (some ⟨A, 0, none⟩) 2 ca] w (SpecInsPost (ps.map (·.2)) s0 s1 w) := by
  have HY := Lib.hid hyes
  have hf : Fits64 kv := by
    obtain ⟨neg, l, rfl⟩ := idx_int hyes
    exact (idx_some hyes).2
  obtain ⟨hf1, hf2⟩ := hf
  clear hyes
  obtain ⟨k0, hk0⟩ : ∃ k, k = kx s0 := ⟨_, rfl⟩
  obtain ⟨k1, hk1⟩ : ∃ k, k = kx s1 := ⟨_, rfl⟩
  rw [← hk0] at h0 v0
  rw [← hk1] at h1 v1
  obtain ⟨n, hn⟩ : ∃ n, n = ps.length := ⟨_, rfl⟩
  rw [← hn] at hl hR ⊢
  have HN := Lib.hid hn
  have HAL : Hid (Below w.heap.size w (((w.alloc (.cells #[.int .i64 6, .bool false, .slice none 0 0, .int .u64 0, .string ⟨#[]⟩, .slice ka n kc] 26)).alloc (.cells #[.int .i64 0, .bool false, .slice none 0 0, .int .u64 0, .string ⟨#[]⟩, .slice none 0 0] 26)).alloc (.cells #[.int .i64 0, .bool false, .slice none 0 0, .int .u64 0, .string ⟨#[]⟩, .slice none 0 0] 26))) := (((Below.refl _ _).alloc (Nat.le_refl _) _).alloc (by simp) _).alloc (by simp; omega) _
  have HBX := Lib.hid (((Blk.new w 26 #[.int .i64 6, .bool false, .slice none 0 0, .int .u64 0, .string ⟨#[]⟩, .slice ka n kc]).alloc (.cells #[.int .i64 0, .bool false, .slice none 0 0, .int .u64 0, .string ⟨#[]⟩, .slice none 0 0] 26)).alloc (.cells #[.int .i64 0, .bool false, .slice none 0 0, .int .u64 0, .string ⟨#[]⟩, .slice none 0 0] 26))
  have HBY := Lib.hid ((Blk.new_at (w.alloc (.cells #[.int .i64 6, .bool false, .slice none 0 0, .int .u64 0, .string ⟨#[]⟩, .slice ka n kc] 26)) 26 #[.int .i64 0, .bool false, .slice none 0 0, .int .u64 0, .string ⟨#[]⟩, .slice none 0 0] (n := w.heap.size + 1) (by simp)).alloc (.cells #[.int .i64 0, .bool false, .slice none 0 0, .int .u64 0, .string ⟨#[]⟩, .slice none 0 0] 26))
  have HBZ := Lib.hid (Blk.new_at ((w.alloc (.cells #[.int .i64 6, .bool false, .slice none 0 0, .int .u64 0, .string ⟨#[]⟩, .slice ka n kc] 26)).alloc (.cells #[.int .i64 0, .bool false, .slice none 0 0, .int .u64 0, .string ⟨#[]⟩, .slice none 0 0] 26)) 26 #[.int .i64 0, .bool false, .slice none 0 0, .int .u64 0, .string ⟨#[]⟩, .slice none 0 0] (n := w.heap.size + 1 + 1) (by simp))
  have HW := Lib.hid (whole64_x _ s0 _ (v0.below HAL.out))
  obtain ⟨t0, t1, t2, t3, t4, t5⟩ := h0.below hA HAL.out
  simp only [Nat.zero_add] at t1 t2 t3 t4 t5
  have H0 := Lib.hid h0
  have H1 := Lib.hid h1
  have HV1 := Lib.hid v1
  have HR := Lib.hid hR
  unfold pv at HW ⊢
  clear hR h0 h1 v0 v1 hk0 hk1 hn
  go_enter Tryz.func40, Tryz.ntmps40
  go_wp2_with fail
  refine (arity_two _ _ _).mono ?_
  rintro e w' ⟨rfl, rfl⟩
  go_wp2_with fail
  refine HW.out.mono ?_
  rintro e w1 ⟨⟨k, rfl, hk⟩, hb1⟩
  have HB1 := Lib.hid (HAL.out.trans (hb1.mono HAL.out.size))
  have HBX1 := Lib.hid (HBX.out.below hb1 HBX.out.lt)
  have HBY1 := Lib.hid (HBY.out.below hb1 HBY.out.lt)
  have HBZ1 := Lib.hid (HBZ.out.below hb1 HBZ.out.lt)
  have HKK := Lib.hid hk
  obtain ⟨e0, e1, e2, e3, e4, e5, g0, g1, g2, g3, g4, g5⟩ := blk6 HBX1.out
  obtain ⟨y0, y1, y2, y3, y4, y5, yg0, yg1, yg2, yg3, yg4, yg5⟩ := blk6 HBY1.out
  obtain ⟨z0, z1, z2, z3, z4, z5, zg0, zg1, zg2, zg3, zg4, zg5⟩ := blk6 HBZ1.out
  have hltz : w.heap.size + 1 + 1 < w1.heap.size := HBZ1.out.lt
  have hltx : w.heap.size < w1.heap.size := HBX1.out.lt
  have hlty : w.heap.size + 1 < w1.heap.size := HBY1.out.lt
  clear hb1 hk t0 t1 t2 t3 t4 t5
  obtain rfl : k = kv := HKK.out kv HY.out
  rw [HY.out]
  by_cases hneg : k < 0
  · have d1 : decide (k < 0) = true := decide_eq_true hneg
    have hwk : IntKind.i64.wrap (k + (n : Int)) = k + (n : Int) := by rw [IntKind.wrap_i64]; omega
    obtain ⟨j, hj⟩ : ∃ j, j = placeL n k := ⟨_, rfl⟩
    have hjm : max 0 (min (k + (n : Int)) (n : Int)) = (j : Int) := by rw [hj]; unfold placeL; rw [if_pos hneg]; omega
    have hjn : j ≤ n := by rw [hj]; unfold placeL; rw [if_pos hneg]; omega
    have HJ := Lib.hid hj
    have HJM := Lib.hid hjm
    clear hj hjm
    go_upto_region 9 with fail
    rw [HJM.out]
    clear hwk d1 hneg
    have hb19 : Below w1.heap.size w1 (w1.alloc (.cells #[] 26)) := (Below.refl _ _).alloc (Nat.le_refl _) _
    have hRp : ∀ W, Below w1.heap.size w1 W → RowR W B (.slice ka ps.length kc) ps := fun W h => by
      have := HR.out.below (HB1.out.trans (h.mono HB1.out.size))
      rw [HN.out] at this; exact this
    have HHD := Lib.hid ((hRp _ hb19).head j (by rw [← HN.out]; exact hjn))
    have hs1 := HHD.out.2
    rw [← HN.out] at hs1
    have HRW0 : Hid (RowR (w1.alloc (.cells #[] 26)) w1.heap.size (.slice (some ⟨w1.heap.size, 0, none⟩) 0 0) []) := ⟨World.ownsRow_lit (base := w1.heap.size) (e := 26) (size := 6) w1 #[] 0 (Nat.le_refl _) (by unfold maxLen; omega) rfl, fun p hp => by simp at hp⟩
    have HRP := Lib.hid hRp
    have hj100 : j ≤ 100 := by omega
    clear hRp hb19
    go_wp2_with (at_builtin; refine wpList_append_seg rfl _ (.tmp 39) (.tmp 43) rfl w1.heap.size _ [] HRW0.out rfl _ j _ _ HHD.out.1 rfl (by simp) (by omega) (by simp) ?_; intro v9 w2 hr9 hb9 hg9)
    have H12 : Hid (Below w1.heap.size w1 w2) := ((Below.refl w1.heap.size w1).alloc (Nat.le_refl _) _).trans hb9
    obtain ⟨a9, c9, rfl⟩ := hr9.form
    rw [List.nil_append] at hr9 ⊢
    obtain ⟨q9, hq9⟩ : ∃ q, q = (ps.take j).length := ⟨_, rfl⟩
    have hq9n : q9 = j := by rw [hq9, List.length_take, ← HN.out]; omega
    rw [← hq9, hq9n] at hr9 ⊢
    have HR9 := Lib.hid hr9
    obtain ⟨qt, dt, hst, hs2⟩ := (HRP.out w1 (Below.refl _ _)).tail j (by rw [← HN.out]; exact hjn)
    rw [← HN.out] at hs2 hst
    have HST := Lib.hid hst
    have hx2 := H1.out.below hA (HB1.out.trans (H12.out.mono HB1.out.size))
    obtain ⟨x0', x1', x2', x3', x4', x5'⟩ := hx2
    have HB2 := Lib.hid (HB1.out.trans (H12.out.mono HB1.out.size))
    have hlt1 := HBZ1.out.lt
    have hbx2 := HBX1.out.below H12.out HBX1.out.lt
    have hjn0 : (0 : Int) ≤ (j : Int) := by omega
    have hjn1 : (j : Int) ≤ (n : Int) := by omega
    have hb5 := (hbx2.cell 5).trans rfl
    have HSG : Hid (Seg ((w2.alloc (.cells #[.int .i64 k1, .bool n1, .slice a1 m1 c1, .int .u64 b1, .string x1, .slice none 0 0] 26)).drew) (some ⟨w2.heap.size, 0, none⟩) 1 1 [(pv k1 n1 a1 m1 c1 b1 x1 none 0 0, s1)]) := by
      refine ⟨rfl, fun h => by simp at h, fun p hp i u hu => ?_, fun p hp => ?_⟩
      · injection hp with hp
        subst hp
        have hk := (Blk.new w2 26 #[.int .i64 k1, .bool n1, .slice a1 m1 c1, .int .u64 b1, .string x1, .slice none 0 0]).drew
        rw [Addr.add_lit, Nat.zero_add, hk.cell i]
        simpa [c6, pv] using hu
      · simp at hp
        subst hp
        exact ((HV1.out.below HB2.out).read.below (((Below.refl _ w2).alloc (Nat.le_refl _) _).drew))
    have HBa : Hid (Below w2.heap.size w2 ((w2.alloc (.cells #[.int .i64 k1, .bool n1, .slice a1 m1 c1, .int .u64 b1, .string x1, .slice none 0 0] 26)).drew)) := ((Below.refl _ w2).alloc (Nat.le_refl _) _).drew
    have hsz12 := H12.out.size
    have hl2x : w.heap.size < w2.heap.size := Nat.lt_of_lt_of_le hltx hsz12
    have hl2y : w.heap.size + 1 < w2.heap.size := Nat.lt_of_lt_of_le hlty hsz12
    have hl2z : w.heap.size + 1 + 1 < w2.heap.size := Nat.lt_of_lt_of_le hltz hsz12
    have hl2A : A < w2.heap.size := Nat.lt_trans hA hl2x
    clear hr9 hb9 hg9 hq9 hst hs1 hbx2 e0 e1 e2 e3 e4 e5 g0 g1 g2 g3 g4 g5 y0 y1 y2 y3 y4 y5 yg0 yg1 yg2 yg3 yg4 yg5 z0 z1 z2 z3 z4 z5 zg0 zg1 zg2 zg3 zg4 zg5
    subst hq9n
    go_wp2_with fail
    go_region_law (first
      | (refine step_append_seg rfl _ (.tmp 46) (.tmp 50) (by rfl) w1.heap.size (.slice a9 q9 c9) (ps.take q9) (HR9.out.below HBa.out) (by rfl) (some ⟨w2.heap.size, 0, none⟩) 1 1 _ HSG.out (by rfl) (by rw [List.length_take]; omega) (by omega) (by simp; omega) ?_; intro v5 w5 hr5 hbl5 hgr5; have HR5 := Lib.hid hr5; have HB5 := Lib.hid ((H12.out.trans (HBa.out.mono hsz12)).trans hbl5); have hb55 := ((HBX1.out.below HB5.out HBX1.out.lt).cell 5).trans rfl; have HST2 := Lib.hid (HST.out.below HB5.out); have hsz5 := HB5.out.size; clear hr5 hbl5 hgr5)
      | (have _h5 := HR5; refine step_append_seg rfl _ (.tmp 51) (.tmp 55) (by rfl) w1.heap.size v5 _ HR5.out (by rfl) qt (n - q9) dt _ HST2.out (by rfl) (by simp; omega) (by omega) (by omega) ?_; intro v6 w6 hr6 hbl6 hgr6; have HR6 := Lib.hid hr6; have HB6 := Lib.hid (HB5.out.trans hbl6); obtain ⟨y0, y1, y2, y3, y4, y5, yg0, yg1, yg2, yg3, yg4, yg5⟩ := blk6 (HBY1.out.below HB6.out HBY1.out.lt); obtain ⟨z0, z1, z2, z3, z4, z5, zg0, zg1, zg2, zg3, zg4, zg5⟩ := blk6 (HBZ1.out.below HB6.out HBZ1.out.lt); have hb65 := ((HBX1.out.below HB6.out HBX1.out.lt).cell 5).trans rfl; obtain ⟨a6, c6', rfl⟩ := hr6.form; obtain ⟨n6, hn6⟩ : ∃ n, n = (ps.take q9 ++ [(pv k1 n1 a1 m1 c1 b1 x1 none 0 0, s1)] ++ ps.drop q9).length := ⟨_, rfl⟩; rw [← hn6] at HR6 ⊢; have HN6 := Lib.hid hn6; clear hr6 hbl6 hgr6 hn6))
    all_goals
      have HBY6 := Lib.hid (HBY1.out.below HB6.out HBY1.out.lt)
      have HBZ6 := Lib.hid (HBZ1.out.below HB6.out HBZ1.out.lt)
      obtain ⟨W, hW⟩ : ∃ x, x = ((((((((((((w6.setCell ⟨w.heap.size + 1, 0, none⟩ (.int .i64 0)).setCell ⟨w.heap.size + 1, 1, none⟩ (.bool false)).setCell ⟨w.heap.size + 1, 2, none⟩ (.slice none 0 0)).setCell ⟨w.heap.size + 1, 3, none⟩ (.int .u64 0)).setCell ⟨w.heap.size + 1, 4, none⟩ (.string ⟨#[]⟩)).setCell ⟨w.heap.size + 1, 5, none⟩ (.slice none 0 0)).setCell ⟨w.heap.size + 1 + 1, 0, none⟩ (.int .i64 6)).setCell ⟨w.heap.size + 1 + 1, 1, none⟩ (.bool false)).setCell ⟨w.heap.size + 1 + 1, 2, none⟩ (.slice none 0 0)).setCell ⟨w.heap.size + 1 + 1, 3, none⟩ (.int .u64 0)).setCell ⟨w.heap.size + 1 + 1, 4, none⟩ (.string ⟨#[]⟩)).setCell ⟨w.heap.size + 1 + 1, 5, none⟩ (.slice a6 n6 c6')) := ⟨_, rfl⟩
      obtain ⟨kk1, kk2, ko⟩ := two_six' HBY6.out HBZ6.out (by omega) (.int .i64 0) (.bool false) (.slice none 0 0) (.int .u64 0) (.string ⟨#[]⟩) (.slice none 0 0) (.int .i64 6) (.bool false) (.slice none 0 0) (.int .u64 0) (.string ⟨#[]⟩) (.slice a6 n6 c6') W hW
      rw [← hW]
      have HKO := Lib.hid ko
      clear hW ko y0 y1 y2 y3 y4 y5 yg0 yg1 yg2 yg3 yg4 yg5 z0 z1 z2 z3 z4 z5 zg0 zg1 zg2 zg3 zg4 zg5
      obtain ⟨y0, y1, y2, y3, y4, y5, yg0, yg1, yg2, yg3, yg4, yg5⟩ := blk6 kk1
      obtain ⟨z0, z1, z2, z3, z4, z5, zg0, zg1, zg2, zg3, zg4, zg5⟩ := blk6 kk2
      clear kk1 kk2
      go_wp2
      refine bodyPost_ret (v := .tuple #[.agg #[.int .i64 0, .bool false, .slice none 0 0, .int .u64 0, .string ⟨#[]⟩, .slice none 0 0], .agg #[.int .i64 6, .bool false, .slice none 0 0, .int .u64 0, .string ⟨#[]⟩, .slice a6 n6 c6'], .bool true]) (by simp [results, Tryz.results40, go_sem, y0, y1, y2, y3, y4, y5, z0, z1, z2, z3, z4, z5]) rfl ?_
      have hbw : Below w.heap.size w W := (HB1.out.trans (HB6.out.mono HB1.out.size)).trans (HKO.out.to_below (B := w.heap.size) (Nat.le_trans HB1.out.size HB6.out.size) (fun q _ e => by rcases e with e | e <;> omega))
      refine ⟨a6, n6, c6', by rw [HY.out]; rfl, fun kk hkk => ?_, hbw⟩
      rw [HY.out] at hkk
      injection hkk with hkk
      subst hkk
      have hne6 : ∀ q, (Value.slice a6 n6 c6').ownBlock = some q → ¬ (q = w.heap.size + 1 ∨ q = w.heap.size + 1 + 1) := fun q hq e => by
        have := (HR6.out.1.lt q hq).1
        rcases e with e | e <;> omega
      refine ⟨_, ⟨own_base (own_only HR6.out.1 HKO.out hne6) HB1.out.size, fun p hp => RVal.apart (s := p.2) (HR6.out.2 p hp) (fun g e _ => by
        rcases e with rfl | rfl
        · exact ⟨_, _, HBY6.out, by decide⟩
        · exact ⟨_, _, HBZ6.out, by decide⟩) HKO.out⟩, ?_⟩
      have hj := HJ.out
      rw [List.map_append, List.map_append, List.map_cons, List.map_nil, List.map_take, List.map_drop, List.length_map, ← HN.out, ← hj]
      unfold insL
      simp
  · have d1 : decide (k < 0) = false := decide_eq_false hneg
    obtain ⟨j, hj⟩ : ∃ j, j = placeL n k := ⟨_, rfl⟩
    have hjm : max 0 (min k (n : Int)) = (j : Int) := by rw [hj]; unfold placeL; rw [if_neg hneg]; omega
    have hjn : j ≤ n := by rw [hj]; unfold placeL; rw [if_neg hneg]; omega
    have HJ := Lib.hid hj
    have HJM := Lib.hid hjm
    clear hj hjm
    go_upto_region 9 with fail
    rw [HJM.out]
    clear d1 hneg
    have hb19 : Below w1.heap.size w1 (w1.alloc (.cells #[] 26)) := (Below.refl _ _).alloc (Nat.le_refl _) _
    have hRp : ∀ W, Below w1.heap.size w1 W → RowR W B (.slice ka ps.length kc) ps := fun W h => by
      have := HR.out.below (HB1.out.trans (h.mono HB1.out.size))
      rw [HN.out] at this; exact this
    have HHD := Lib.hid ((hRp _ hb19).head j (by rw [← HN.out]; exact hjn))
    have hs1 := HHD.out.2
    rw [← HN.out] at hs1
    have HRW0 : Hid (RowR (w1.alloc (.cells #[] 26)) w1.heap.size (.slice (some ⟨w1.heap.size, 0, none⟩) 0 0) []) := ⟨World.ownsRow_lit (base := w1.heap.size) (e := 26) (size := 6) w1 #[] 0 (Nat.le_refl _) (by unfold maxLen; omega) rfl, fun p hp => by simp at hp⟩
    have HRP := Lib.hid hRp
    have hj100 : j ≤ 100 := by omega
    clear hRp hb19
    go_wp2_with (at_builtin; refine wpList_append_seg rfl _ (.tmp 39) (.tmp 43) rfl w1.heap.size _ [] HRW0.out rfl _ j _ _ HHD.out.1 rfl (by simp) (by omega) (by simp) ?_; intro v9 w2 hr9 hb9 hg9)
    have H12 : Hid (Below w1.heap.size w1 w2) := ((Below.refl w1.heap.size w1).alloc (Nat.le_refl _) _).trans hb9
    obtain ⟨a9, c9, rfl⟩ := hr9.form
    rw [List.nil_append] at hr9 ⊢
    obtain ⟨q9, hq9⟩ : ∃ q, q = (ps.take j).length := ⟨_, rfl⟩
    have hq9n : q9 = j := by rw [hq9, List.length_take, ← HN.out]; omega
    rw [← hq9, hq9n] at hr9 ⊢
    have HR9 := Lib.hid hr9
    obtain ⟨qt, dt, hst, hs2⟩ := (HRP.out w1 (Below.refl _ _)).tail j (by rw [← HN.out]; exact hjn)
    rw [← HN.out] at hs2 hst
    have HST := Lib.hid hst
    have hx2 := H1.out.below hA (HB1.out.trans (H12.out.mono HB1.out.size))
    obtain ⟨x0', x1', x2', x3', x4', x5'⟩ := hx2
    have HB2 := Lib.hid (HB1.out.trans (H12.out.mono HB1.out.size))
    have hlt1 := HBZ1.out.lt
    have hbx2 := HBX1.out.below H12.out HBX1.out.lt
    have hjn0 : (0 : Int) ≤ (j : Int) := by omega
    have hjn1 : (j : Int) ≤ (n : Int) := by omega
    have hb5 := (hbx2.cell 5).trans rfl
    have HSG : Hid (Seg ((w2.alloc (.cells #[.int .i64 k1, .bool n1, .slice a1 m1 c1, .int .u64 b1, .string x1, .slice none 0 0] 26)).drew) (some ⟨w2.heap.size, 0, none⟩) 1 1 [(pv k1 n1 a1 m1 c1 b1 x1 none 0 0, s1)]) := by
      refine ⟨rfl, fun h => by simp at h, fun p hp i u hu => ?_, fun p hp => ?_⟩
      · injection hp with hp
        subst hp
        have hk := (Blk.new w2 26 #[.int .i64 k1, .bool n1, .slice a1 m1 c1, .int .u64 b1, .string x1, .slice none 0 0]).drew
        rw [Addr.add_lit, Nat.zero_add, hk.cell i]
        simpa [c6, pv] using hu
      · simp at hp
        subst hp
        exact ((HV1.out.below HB2.out).read.below (((Below.refl _ w2).alloc (Nat.le_refl _) _).drew))
    have HBa : Hid (Below w2.heap.size w2 ((w2.alloc (.cells #[.int .i64 k1, .bool n1, .slice a1 m1 c1, .int .u64 b1, .string x1, .slice none 0 0] 26)).drew)) := ((Below.refl _ w2).alloc (Nat.le_refl _) _).drew
    have hsz12 := H12.out.size
    have hl2x : w.heap.size < w2.heap.size := Nat.lt_of_lt_of_le hltx hsz12
    have hl2y : w.heap.size + 1 < w2.heap.size := Nat.lt_of_lt_of_le hlty hsz12
    have hl2z : w.heap.size + 1 + 1 < w2.heap.size := Nat.lt_of_lt_of_le hltz hsz12
    have hl2A : A < w2.heap.size := Nat.lt_trans hA hl2x
    clear hr9 hb9 hg9 hq9 hst hs1 hbx2 e0 e1 e2 e3 e4 e5 g0 g1 g2 g3 g4 g5 y0 y1 y2 y3 y4 y5 yg0 yg1 yg2 yg3 yg4 yg5 z0 z1 z2 z3 z4 z5 zg0 zg1 zg2 zg3 zg4 zg5
    subst hq9n
    go_wp2_with fail
    go_region_law (first
      | (refine step_append_seg rfl _ (.tmp 46) (.tmp 50) (by rfl) w1.heap.size (.slice a9 q9 c9) (ps.take q9) (HR9.out.below HBa.out) (by rfl) (some ⟨w2.heap.size, 0, none⟩) 1 1 _ HSG.out (by rfl) (by rw [List.length_take]; omega) (by omega) (by simp; omega) ?_; intro v5 w5 hr5 hbl5 hgr5; have HR5 := Lib.hid hr5; have HB5 := Lib.hid ((H12.out.trans (HBa.out.mono hsz12)).trans hbl5); have hb55 := ((HBX1.out.below HB5.out HBX1.out.lt).cell 5).trans rfl; have HST2 := Lib.hid (HST.out.below HB5.out); have hsz5 := HB5.out.size; clear hr5 hbl5 hgr5)
      | (have _h5 := HR5; refine step_append_seg rfl _ (.tmp 51) (.tmp 55) (by rfl) w1.heap.size v5 _ HR5.out (by rfl) qt (n - q9) dt _ HST2.out (by rfl) (by simp; omega) (by omega) (by omega) ?_; intro v6 w6 hr6 hbl6 hgr6; have HR6 := Lib.hid hr6; have HB6 := Lib.hid (HB5.out.trans hbl6); obtain ⟨y0, y1, y2, y3, y4, y5, yg0, yg1, yg2, yg3, yg4, yg5⟩ := blk6 (HBY1.out.below HB6.out HBY1.out.lt); obtain ⟨z0, z1, z2, z3, z4, z5, zg0, zg1, zg2, zg3, zg4, zg5⟩ := blk6 (HBZ1.out.below HB6.out HBZ1.out.lt); have hb65 := ((HBX1.out.below HB6.out HBX1.out.lt).cell 5).trans rfl; obtain ⟨a6, c6', rfl⟩ := hr6.form; obtain ⟨n6, hn6⟩ : ∃ n, n = (ps.take q9 ++ [(pv k1 n1 a1 m1 c1 b1 x1 none 0 0, s1)] ++ ps.drop q9).length := ⟨_, rfl⟩; rw [← hn6] at HR6 ⊢; have HN6 := Lib.hid hn6; clear hr6 hbl6 hgr6 hn6))
    all_goals
      have HBY6 := Lib.hid (HBY1.out.below HB6.out HBY1.out.lt)
      have HBZ6 := Lib.hid (HBZ1.out.below HB6.out HBZ1.out.lt)
      obtain ⟨W, hW⟩ : ∃ x, x = ((((((((((((w6.setCell ⟨w.heap.size + 1, 0, none⟩ (.int .i64 0)).setCell ⟨w.heap.size + 1, 1, none⟩ (.bool false)).setCell ⟨w.heap.size + 1, 2, none⟩ (.slice none 0 0)).setCell ⟨w.heap.size + 1, 3, none⟩ (.int .u64 0)).setCell ⟨w.heap.size + 1, 4, none⟩ (.string ⟨#[]⟩)).setCell ⟨w.heap.size + 1, 5, none⟩ (.slice none 0 0)).setCell ⟨w.heap.size + 1 + 1, 0, none⟩ (.int .i64 6)).setCell ⟨w.heap.size + 1 + 1, 1, none⟩ (.bool false)).setCell ⟨w.heap.size + 1 + 1, 2, none⟩ (.slice none 0 0)).setCell ⟨w.heap.size + 1 + 1, 3, none⟩ (.int .u64 0)).setCell ⟨w.heap.size + 1 + 1, 4, none⟩ (.string ⟨#[]⟩)).setCell ⟨w.heap.size + 1 + 1, 5, none⟩ (.slice a6 n6 c6')) := ⟨_, rfl⟩
      obtain ⟨kk1, kk2, ko⟩ := two_six' HBY6.out HBZ6.out (by omega) (.int .i64 0) (.bool false) (.slice none 0 0) (.int .u64 0) (.string ⟨#[]⟩) (.slice none 0 0) (.int .i64 6) (.bool false) (.slice none 0 0) (.int .u64 0) (.string ⟨#[]⟩) (.slice a6 n6 c6') W hW
      rw [← hW]
      have HKO := Lib.hid ko
      clear hW ko y0 y1 y2 y3 y4 y5 yg0 yg1 yg2 yg3 yg4 yg5 z0 z1 z2 z3 z4 z5 zg0 zg1 zg2 zg3 zg4 zg5
      obtain ⟨y0, y1, y2, y3, y4, y5, yg0, yg1, yg2, yg3, yg4, yg5⟩ := blk6 kk1
      obtain ⟨z0, z1, z2, z3, z4, z5, zg0, zg1, zg2, zg3, zg4, zg5⟩ := blk6 kk2
      clear kk1 kk2
      go_wp2
      refine bodyPost_ret (v := .tuple #[.agg #[.int .i64 0, .bool false, .slice none 0 0, .int .u64 0, .string ⟨#[]⟩, .slice none 0 0], .agg #[.int .i64 6, .bool false, .slice none 0 0, .int .u64 0, .string ⟨#[]⟩, .slice a6 n6 c6'], .bool true]) (by simp [results, Tryz.results40, go_sem, y0, y1, y2, y3, y4, y5, z0, z1, z2, z3, z4, z5]) rfl ?_
      have hbw : Below w.heap.size w W := (HB1.out.trans (HB6.out.mono HB1.out.size)).trans (HKO.out.to_below (B := w.heap.size) (Nat.le_trans HB1.out.size HB6.out.size) (fun q _ e => by rcases e with e | e <;> omega))
      refine ⟨a6, n6, c6', by rw [HY.out]; rfl, fun kk hkk => ?_, hbw⟩
      rw [HY.out] at hkk
      injection hkk with hkk
      subst hkk
      have hne6 : ∀ q, (Value.slice a6 n6 c6').ownBlock = some q → ¬ (q = w.heap.size + 1 ∨ q = w.heap.size + 1 + 1) := fun q hq e => by
        have := (HR6.out.1.lt q hq).1
        rcases e with e | e <;> omega
      refine ⟨_, ⟨own_base (own_only HR6.out.1 HKO.out hne6) HB1.out.size, fun p hp => RVal.apart (s := p.2) (HR6.out.2 p hp) (fun g e _ => by
        rcases e with rfl | rfl
        · exact ⟨_, _, HBY6.out, by decide⟩
        · exact ⟨_, _, HBZ6.out, by decide⟩) HKO.out⟩, ?_⟩
      have hj := HJ.out
      rw [List.map_append, List.map_append, List.map_cons, List.map_nil, List.map_take, List.map_drop, List.length_map, ← HN.out, ← hj]
      unfold insL
      simp
end Go.Proofs.YtmpfffcdpecadaaGreat
