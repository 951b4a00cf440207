/- The reference's FrontUnquote of a literal's text. -/
import Derived.Test.YtghendoiohfolaaGreatDoorScanTop
namespace Go.Proofs.YtghendoiohfolaaGreatDoor
set_option linter.unusedSimpArgs false
set_option linter.unusedVariables false
set_option linter.unnecessarySimpa false
open Go.RowKit
def zeroVal : Value := .agg #[.int .i64 0, .bool false, .slice none 0 0, .int .u64 0, .string ⟨#[]⟩, .slice none 0 0]
def FUnqPost (t : ByteArray) (raw by_ : Bool) (B : List UInt8) (w : World) (e : Ending) (w' : World) : Prop :=
  Below w.heap.size w w' ∧
  ((OpenWhy t by_ B ∧ e = .returned (.tuple #[zeroVal, .int .i64 0])) ∨
   (plainB t.data.toList = true ∧ den raw by_ B = none ∧ e = .returned (.tuple #[zeroVal, .int .i64 1])) ∨
   (plainB t.data.toList = true ∧ ∃ T, den raw by_ B = some T ∧ e = .returned (.tuple #[.agg #[.int .i64 (if by_ then 5 else 4), .bool false, .slice none 0 0, .int .u64 0, .string ⟨T.toArray⟩, .slice none 0 0], .int .i64 2])))
theorem blk_six {w : World} {g : Nat} {t : TypeId} {a b c d e f : Value} (h : Blk w g t #[a, b, c, d, e, f]) :
    w.cell? ⟨g, 0, none⟩ = some a ∧ w.cell? ⟨g, 1, none⟩ = some b ∧ w.cell? ⟨g, 2, none⟩ = some c ∧ w.cell? ⟨g, 3, none⟩ = some d ∧ w.cell? ⟨g, 4, none⟩ = some e ∧ w.cell? ⟨g, 5, none⟩ = some f ∧
    w.frozen? ⟨g, 0, none⟩ = false ∧ w.frozen? ⟨g, 1, none⟩ = false ∧ w.frozen? ⟨g, 2, none⟩ = false ∧ w.frozen? ⟨g, 3, none⟩ = false ∧ w.frozen? ⟨g, 4, none⟩ = false ∧ w.frozen? ⟨g, 5, none⟩ = false :=
  ⟨(h.cell 0).trans rfl, (h.cell 1).trans rfl, (h.cell 2).trans rfl, (h.cell 3).trans rfl, (h.cell 4).trans rfl, (h.cell 5).trans rfl, h.frozen 0, h.frozen 1, h.frozen 2, h.frozen 3, h.frozen 4, h.frozen 5⟩
set_option maxRecDepth 20000 in
set_option maxHeartbeats 8000000 in
theorem funq_any (t : ByteArray) (a B : List UInt8) (wd : Nat) (q : UInt8) (w : World) (hT : Tabs w) (hform : a = [] ∨ a = [114] ∨ a = [98] ∨ a = [114, 98]) (hwd : wd = 1 ∨ wd = 3) (hq : q = 34 ∨ q = 39) (hB : Body q B) (ht : t.data.toList = litL a wd q B) :
    Calls Tryz.prog 6 #[.string t] w (FUnqPost t (a.contains 114) (a.contains 98) B w) := by
  obtain ⟨w0, hw0⟩ : ∃ w0, w0 = w.alloc (.cells #[.int .i64 0, .bool false, .slice none 0 0, .int .u64 0, .string ⟨#[]⟩, .slice none 0 0] 28) := ⟨_, rfl⟩
  obtain ⟨R, hR⟩ : ∃ R, R = w.heap.size := ⟨_, rfl⟩
  have HB0 : Hid (Below w.heap.size w w0) := by rw [hw0]; exact (Below.refl _ _).alloc (Nat.le_refl _) _
  have HR0 : Hid (Blk w0 R 28 #[.int .i64 0, .bool false, .slice none 0 0, .int .u64 0, .string ⟨#[]⟩, .slice none 0 0]) := by rw [hw0, hR]; exact Blk.new w _ _
  have HFS := Lib.hid (fscan_any t a B wd q w0 (tabs_below hT HB0.out) hform hwd hq hB ht)
  have HRW : Hid (w.heap.size ≤ R) := by rw [hR]; exact Nat.le_refl _
  have HR1 : Hid (R < w0.heap.size) := HR0.out.lt
  clear hT hform hwd hq hB ht
  go_enter Tryz.func6, Tryz.ntmps6
  go_wp2_with fail
  first | rw [← hw0] | skip
  first | rw [← hR] | skip
  clear hw0 hR
  refine HFS.out.mono ?_
  rintro e w1 ⟨hb, hpost⟩
  have HB1 : Hid (Below w.heap.size w w1) := HB0.out.trans (hb.mono HB0.out.size)
  have HR2 : Hid (Blk w1 R 28 #[.int .i64 0, .bool false, .slice none 0 0, .int .u64 0, .string ⟨#[]⟩, .slice none 0 0]) := HR0.out.below hb HR1.out
  obtain ⟨r0, r1, r2, r3, r4, r5, f0, f1, f2, f3, f4, f5⟩ := blk_six HR2.out
  have HB2 := HB1
  clear hb
  rcases hpost with ⟨hw, v, b, rfl⟩ | ⟨hpl, hd, v, b, rfl⟩ | ⟨hpl, T, hd, g, cap, b, rfl, l, c, el, ec, x1, x2, x3, x4, x5, x6, y1, y2, y3, y4, y5, y6, t1, t2, ho⟩
  · have HW := Lib.hid hw
    clear hw
    go_wp2
    obtain ⟨w9, hw9⟩ : ∃ w9, w9 = ((((((w1.setCell ⟨R, 0, none⟩ (.int .i64 0)).setCell ⟨R, 1, none⟩ (.bool false)).setCell ⟨R, 2, none⟩ (.slice none 0 0)).setCell ⟨R, 3, none⟩ (.int .u64 0)).setCell ⟨R, 4, none⟩ (.string ⟨#[]⟩)).setCell ⟨R, 5, none⟩ (.slice none 0 0)) := ⟨_, rfl⟩
    have hR9 : Blk w9 R 28 #[.int .i64 0, .bool false, .slice none 0 0, .int .u64 0, .string ⟨#[]⟩, .slice none 0 0] := by rw [hw9]; exact ((((((HR2.out.put 0 (.int .i64 0)).put 1 (.bool false)).put 2 (.slice none 0 0)).put 3 (.int .u64 0)).put 4 (.string ⟨#[]⟩)).put 5 (.slice none 0 0))
    have hB9 : Below w.heap.size w w9 := by rw [hw9]; exact ((((((HB1.out.setCell (p := ⟨R, 0, none⟩) HRW.out _).setCell (p := ⟨R, 1, none⟩) HRW.out _).setCell (p := ⟨R, 2, none⟩) HRW.out _).setCell (p := ⟨R, 3, none⟩) HRW.out _).setCell (p := ⟨R, 4, none⟩) HRW.out _).setCell (p := ⟨R, 5, none⟩) HRW.out _)
    rw [← hw9]
    obtain ⟨s0, s1, s2, s3, s4, s5, -, -, -, -, -, -⟩ := blk_six hR9
    refine bodyPost_ret (v := .tuple #[.agg #[.int .i64 0, .bool false, .slice none 0 0, .int .u64 0, .string ⟨#[]⟩, .slice none 0 0], .int .i64 0]) (by simp [results, Tryz.results6, go_sem, s0, s1, s2, s3, s4, s5]) rfl ⟨hB9, ?_⟩
    exact .inl ⟨HW.out, rfl⟩
  · have HPL := Lib.hid hpl
    have HD := Lib.hid hd
    clear hpl hd
    go_wp2
    obtain ⟨w9, hw9⟩ : ∃ w9, w9 = ((((((w1.setCell ⟨R, 0, none⟩ (.int .i64 0)).setCell ⟨R, 1, none⟩ (.bool false)).setCell ⟨R, 2, none⟩ (.slice none 0 0)).setCell ⟨R, 3, none⟩ (.int .u64 0)).setCell ⟨R, 4, none⟩ (.string ⟨#[]⟩)).setCell ⟨R, 5, none⟩ (.slice none 0 0)) := ⟨_, rfl⟩
    have hR9 : Blk w9 R 28 #[.int .i64 0, .bool false, .slice none 0 0, .int .u64 0, .string ⟨#[]⟩, .slice none 0 0] := by rw [hw9]; exact ((((((HR2.out.put 0 (.int .i64 0)).put 1 (.bool false)).put 2 (.slice none 0 0)).put 3 (.int .u64 0)).put 4 (.string ⟨#[]⟩)).put 5 (.slice none 0 0))
    have hB9 : Below w.heap.size w w9 := by rw [hw9]; exact ((((((HB1.out.setCell (p := ⟨R, 0, none⟩) HRW.out _).setCell (p := ⟨R, 1, none⟩) HRW.out _).setCell (p := ⟨R, 2, none⟩) HRW.out _).setCell (p := ⟨R, 3, none⟩) HRW.out _).setCell (p := ⟨R, 4, none⟩) HRW.out _).setCell (p := ⟨R, 5, none⟩) HRW.out _)
    rw [← hw9]
    obtain ⟨s0, s1, s2, s3, s4, s5, -, -, -, -, -, -⟩ := blk_six hR9
    refine bodyPost_ret (v := .tuple #[.agg #[.int .i64 0, .bool false, .slice none 0 0, .int .u64 0, .string ⟨#[]⟩, .slice none 0 0], .int .i64 1]) (by simp [results, Tryz.results6, go_sem, s0, s1, s2, s3, s4, s5]) rfl ⟨hB9, ?_⟩
    exact .inr (.inl ⟨HPL.out, HD.out, rfl⟩)
  · have HPL := Lib.hid hpl
    have HD := Lib.hid hd
    have hg := outs_lt ho
    have z0 : w1.cell? ⟨g, 0, none⟩ = some (.int .i64 (if a.contains 98 then 9 else 8)) := outs_cell ho 0 _ rfl
    have z1 : w1.cell? ⟨g, 1, none⟩ = some (.string t) := outs_cell ho 1 _ rfl
    have z2 : w1.cell? ⟨g, 2, none⟩ = some (.int .i64 (if a.contains 98 then 5 else 4)) := outs_cell ho 2 _ rfl
    have z3 : w1.cell? ⟨g, 3, none⟩ = some (.bool false) := outs_cell ho 3 _ rfl
    have z4 : w1.cell? ⟨g, 4, none⟩ = some (.slice none 0 0) := outs_cell ho 4 _ rfl
    have z5 : w1.cell? ⟨g, 5, none⟩ = some (.int .u64 0) := outs_cell ho 5 _ rfl
    have z6 : w1.cell? ⟨g, 6, none⟩ = some (.string ⟨T.toArray⟩) := outs_cell ho 6 _ rfl
    have z7 : w1.cell? ⟨g, 7, none⟩ = some (.slice none 0 0) := outs_cell ho 7 _ rfl
    have htt : (t.toList == t.toList) = true := by simp
    obtain ⟨TT, hTT⟩ : ∃ TT : ByteArray, TT = ⟨T.toArray⟩ := ⟨_, rfl⟩
    rw [← hTT] at z6
    have HTT := Lib.hid hTT
    clear hpl hd ho hTT
    by_cases hby : a.contains 98 = true
    · rw [if_pos hby] at z0 z2
      have HBY := Lib.hid hby
      clear hby
      go_wp2
      obtain ⟨w9, hw9⟩ : ∃ w9, w9 = ((((((w1.setCell ⟨R, 0, none⟩ (.int .i64 5)).setCell ⟨R, 1, none⟩ (.bool false)).setCell ⟨R, 2, none⟩ (.slice none 0 0)).setCell ⟨R, 3, none⟩ (.int .u64 0)).setCell ⟨R, 4, none⟩ (.string TT)).setCell ⟨R, 5, none⟩ (.slice none 0 0)) := ⟨_, rfl⟩
      have hR9 : Blk w9 R 28 #[.int .i64 5, .bool false, .slice none 0 0, .int .u64 0, .string TT, .slice none 0 0] := by rw [hw9]; exact ((((((HR2.out.put 0 (.int .i64 5)).put 1 (.bool false)).put 2 (.slice none 0 0)).put 3 (.int .u64 0)).put 4 (.string TT)).put 5 (.slice none 0 0))
      have hB9 : Below w.heap.size w w9 := by rw [hw9]; exact ((((((HB1.out.setCell (p := ⟨R, 0, none⟩) HRW.out _).setCell (p := ⟨R, 1, none⟩) HRW.out _).setCell (p := ⟨R, 2, none⟩) HRW.out _).setCell (p := ⟨R, 3, none⟩) HRW.out _).setCell (p := ⟨R, 4, none⟩) HRW.out _).setCell (p := ⟨R, 5, none⟩) HRW.out _)
      rw [← hw9]
      obtain ⟨s0, s1, s2, s3, s4, s5, -, -, -, -, -, -⟩ := blk_six hR9
      refine bodyPost_ret (v := .tuple #[.agg #[.int .i64 5, .bool false, .slice none 0 0, .int .u64 0, .string TT, .slice none 0 0], .int .i64 2]) (by simp [results, Tryz.results6, go_sem, s0, s1, s2, s3, s4, s5]) rfl ⟨hB9, ?_⟩
      refine .inr (.inr ⟨HPL.out, T, HD.out, ?_⟩)
      rw [if_pos HBY.out, HTT.out]
    · rw [if_neg hby] at z0 z2
      have HBY := Lib.hid hby
      clear hby
      go_wp2
      obtain ⟨w9, hw9⟩ : ∃ w9, w9 = ((((((w1.setCell ⟨R, 0, none⟩ (.int .i64 4)).setCell ⟨R, 1, none⟩ (.bool false)).setCell ⟨R, 2, none⟩ (.slice none 0 0)).setCell ⟨R, 3, none⟩ (.int .u64 0)).setCell ⟨R, 4, none⟩ (.string TT)).setCell ⟨R, 5, none⟩ (.slice none 0 0)) := ⟨_, rfl⟩
      have hR9 : Blk w9 R 28 #[.int .i64 4, .bool false, .slice none 0 0, .int .u64 0, .string TT, .slice none 0 0] := by rw [hw9]; exact ((((((HR2.out.put 0 (.int .i64 4)).put 1 (.bool false)).put 2 (.slice none 0 0)).put 3 (.int .u64 0)).put 4 (.string TT)).put 5 (.slice none 0 0))
      have hB9 : Below w.heap.size w w9 := by rw [hw9]; exact ((((((HB1.out.setCell (p := ⟨R, 0, none⟩) HRW.out _).setCell (p := ⟨R, 1, none⟩) HRW.out _).setCell (p := ⟨R, 2, none⟩) HRW.out _).setCell (p := ⟨R, 3, none⟩) HRW.out _).setCell (p := ⟨R, 4, none⟩) HRW.out _).setCell (p := ⟨R, 5, none⟩) HRW.out _)
      rw [← hw9]
      obtain ⟨s0, s1, s2, s3, s4, s5, -, -, -, -, -, -⟩ := blk_six hR9
      refine bodyPost_ret (v := .tuple #[.agg #[.int .i64 4, .bool false, .slice none 0 0, .int .u64 0, .string TT, .slice none 0 0], .int .i64 2]) (by simp [results, Tryz.results6, go_sem, s0, s1, s2, s3, s4, s5]) rfl ⟨hB9, ?_⟩
      refine .inr (.inr ⟨HPL.out, T, HD.out, ?_⟩)
      rw [if_neg HBY.out, HTT.out]
end Go.Proofs.YtghendoiohfolaaGreatDoor
