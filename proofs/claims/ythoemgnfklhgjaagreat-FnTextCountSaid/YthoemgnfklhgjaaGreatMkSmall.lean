/- Small ints made (as in IntSmall; for seats with MakeInt). -/
import Derived.Test.YthoemgnfklhgjaaGreatMakeInt
namespace Go.Proofs.YthoemgnfklhgjaaGreat
open Go.RowKit
theorem make_int64_small (n : Int) (w : World) (h1 : -2147483648 ≤ n) (h2 : n ≤ 2147483647) :
    Calls Tryz.prog 78 #[.int .i64 n] w fun e w' => e = .returned (.agg #[.int .i64 n, .pointer none]) ∧ Below w.heap.size w w' := by
  go_enter Tryz.func78, Tryz.ntmps78
  go_wp2_with fail
  refine (make_small n _).mono ?_
  rintro e w1 ⟨rfl, hb⟩
  have k := (Blk.new_at w 72 #[.int .i64 0, .pointer none] rfl).below hb (by simp)
  have hbn : Below w.heap.size w w1 := ((Below.refl _ w).alloc (Nat.le_refl _) _).trans (hb.mono (by simp))
  have e0 := k.cell 0
  have e1 := k.cell 1
  have f0 := k.frozen 0
  have f1 := k.frozen 1
  simp only [List.getElem?_toArray, List.getElem?_cons_zero, List.getElem?_cons_succ] at e0 e1
  clear k hb
  go_wp2
  refine bodyPost_ret (v := .agg #[.int .i64 n, .pointer none]) (by simp [results, Tryz.results78, go_sem, e0, e1]) rfl ⟨rfl, ?_⟩
  exact (hbn.setCell (p := ⟨w.heap.size, 0, none⟩) (by simp) _).setCell (p := ⟨w.heap.size, 1, none⟩) (by simp) _
set_option maxHeartbeats 800000 in
theorem make_int_small (n : Int) (w : World) (h1 : -2147483648 ≤ n) (h2 : n ≤ 2147483647) :
    Calls Tryz.prog 63 #[.int .i64 n] w fun e w' => e = .returned (.agg #[.int .i64 n, .pointer none]) ∧ Below w.heap.size w w' := by
  go_enter Tryz.func63, Tryz.ntmps63
  go_wp2_with fail
  refine (make_int64_small n _ h1 h2).mono ?_
  rintro e w1 ⟨rfl, hb⟩
  have k := (Blk.new_at w 72 #[.int .i64 0, .pointer none] rfl).below hb (by simp)
  have hbn : Below w.heap.size w w1 := ((Below.refl _ w).alloc (Nat.le_refl _) _).trans (hb.mono (by simp))
  have e0 := k.cell 0
  have e1 := k.cell 1
  have f0 := k.frozen 0
  have f1 := k.frozen 1
  simp only [List.getElem?_toArray, List.getElem?_cons_zero, List.getElem?_cons_succ] at e0 e1
  clear k hb
  go_wp2
  refine bodyPost_ret (v := .agg #[.int .i64 n, .pointer none]) (by simp [results, Tryz.results63, go_sem, e0, e1]) rfl ⟨rfl, ?_⟩
  exact (hbn.setCell (p := ⟨w.heap.size, 0, none⟩) (by simp) _).setCell (p := ⟨w.heap.size, 1, none⟩) (by simp) _
end Go.Proofs.YthoemgnfklhgjaaGreat
