/- Walks of the package's small ints: made, looked into. -/
import Derived.Test.YtkddmiamdpbgiaaDoorRows
import Derived.Test.YtkddmiamdpbgiaaDoorOwn
import Derived.WalkSpells
import Derived.WalkLawsBesides
import Derived.BigQuiet
import Derived.Deep.QuietTactic
import Derived.Laws.Pointers
namespace Go.Proofs.YtkddmiamdpbgiaaDoor
open Go.RowKit
set_option maxHeartbeats 800000 in
theorem make_small (n : Int) (w : World) :
    Calls Tryd.prog 58 #[.int .i64 n] w fun e w' => e = .returned (.agg #[.int .i64 n, .pointer none]) ∧ Below w.heap.size w w' := by
  go_enter Tryd.func58, Tryd.ntmps58
  go_wp2
  refine bodyPost_ret (v := .agg #[.int .i64 n, .pointer none]) (by simp [results, Tryd.results58, go_sem]) rfl ⟨rfl, ?_⟩
  exact (Below.refl _ _).alloc (Nat.le_refl _) _
set_option maxHeartbeats 800000 in
theorem int_get (n : Int) (p : Option Addr) (w : World) :
    Calls Tryd.prog 49 #[.agg #[.int .i64 n, .pointer p]] w fun e w' => e = .returned (.tuple #[.int .i64 n, .pointer p]) ∧ Below w.heap.size w w' := by
  go_enter Tryd.func49, Tryd.ntmps49
  go_wp2_with fail
  go_quiet (fail)
  go_wp2
  go_ret2
  exact ⟨rfl, below_dn ((Below.refl _ _).alloc (Nat.le_refl _) _) _⟩
set_option maxHeartbeats 800000 in
/-- What the package makes of a number that fits 32 bits. -/
theorem make_int64_small (n : Int) (w : World) (h1 : -2147483648 ≤ n) (h2 : n ≤ 2147483647) :
    Calls Tryd.prog 51 #[.int .i64 n] w fun e w' => e = .returned (.agg #[.int .i64 n, .pointer none]) ∧ Below w.heap.size w w' := by
  go_enter Tryd.func51, Tryd.ntmps51
  go_wp2_with fail
  refine (make_small n _).mono ?_
  rintro e w1 ⟨rfl, hb⟩
  have k := (Blk.new_at w 82 #[.int .i64 0, .pointer none] rfl).below hb (by simp)
  have hbn : Below w.heap.size w w1 := ((Below.refl _ w).alloc (Nat.le_refl _) _).trans (hb.mono (by simp))
  have e0 := k.cell 0
  have e1 := k.cell 1
  have f0 := k.frozen 0
  have f1 := k.frozen 1
  simp only [List.getElem?_toArray, List.getElem?_cons_zero, List.getElem?_cons_succ] at e0 e1
  clear k hb
  go_wp2
  refine bodyPost_ret (v := .agg #[.int .i64 n, .pointer none]) (by simp [results, Tryd.results51, go_sem, e0, e1]) rfl ⟨rfl, ?_⟩
  exact (hbn.setCell (p := ⟨w.heap.size, 0, none⟩) (by simp) _).setCell (p := ⟨w.heap.size, 1, none⟩) (by simp) _
set_option maxHeartbeats 800000 in
theorem make_int_small (n : Int) (w : World) (h1 : -2147483648 ≤ n) (h2 : n ≤ 2147483647) :
    Calls Tryd.prog 43 #[.int .i64 n] w fun e w' => e = .returned (.agg #[.int .i64 n, .pointer none]) ∧ Below w.heap.size w w' := by
  go_enter Tryd.func43, Tryd.ntmps43
  go_wp2_with fail
  refine (make_int64_small n _ h1 h2).mono ?_
  rintro e w1 ⟨rfl, hb⟩
  have k := (Blk.new_at w 82 #[.int .i64 0, .pointer none] rfl).below hb (by simp)
  have hbn : Below w.heap.size w w1 := ((Below.refl _ w).alloc (Nat.le_refl _) _).trans (hb.mono (by simp))
  have e0 := k.cell 0
  have e1 := k.cell 1
  have f0 := k.frozen 0
  have f1 := k.frozen 1
  simp only [List.getElem?_toArray, List.getElem?_cons_zero, List.getElem?_cons_succ] at e0 e1
  clear k hb
  go_wp2
  refine bodyPost_ret (v := .agg #[.int .i64 n, .pointer none]) (by simp [results, Tryd.results43, go_sem, e0, e1]) rfl ⟨rfl, ?_⟩
  exact (hbn.setCell (p := ⟨w.heap.size, 0, none⟩) (by simp) _).setCell (p := ⟨w.heap.size, 1, none⟩) (by simp) _
set_option maxHeartbeats 800000 in
theorem int64_small (n : Int) (w : World) :
    Calls Tryd.prog 42 #[.agg #[.int .i64 n, .pointer none]] w fun e w' => e = .returned (.tuple #[.int .i64 n, .bool true]) ∧ Below w.heap.size w w' := by
  go_enter Tryd.func42, Tryd.ntmps42
  go_wp2_with fail
  refine (int_get n none _).mono ?_
  rintro e w1 ⟨rfl, hb⟩
  have hbn : Below w.heap.size w w1 := ((Below.refl _ w).alloc (Nat.le_refl _) _).trans (hb.mono (by simp))
  clear hb
  go_wp2
  go_ret2
  exact ⟨rfl, hbn⟩
end Go.Proofs.YtkddmiamdpbgiaaDoor
