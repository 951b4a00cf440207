/- The reference's scanner: are its tokens few: of one piece, of three. -/
import Derived.Test.YtghendoiohfolaaGreatDoorScanDeep
namespace Go.Proofs.YtghendoiohfolaaGreatDoor
set_option linter.unusedSimpArgs false
set_option linter.unusedVariables false
set_option linter.unnecessarySimpa false
open Go.RowKit
set_option maxRecDepth 20000 in
set_option maxHeartbeats 8000000 in
theorem deep1 {w : World} {B g cap : Nat} (k0 : Int) (r0 : ByteArray) (vk0 : Int) (vt0 : ByteArray) (l0 c0 e0 f0 : Int) (hk0 : k0 = 1) (h : Outs w B (.slice (some ⟨g, 0, none⟩) 1 cap) 1 ((pieceC k0 r0 vk0 vt0 l0 c0 e0 f0))) :
    Calls Tryz.prog 16 #[.slice (some ⟨g, 0, none⟩) 1 cap] w fun e w' => e = .returned (.bool false) ∧ Below w.heap.size w w' := by
  have hg := outs_lt h
  have x0 : w.cell? ⟨g, 0, none⟩ = some (.int .i64 k0) := outs_cell h 0 _ rfl
  have x1 : w.cell? ⟨g, 1, none⟩ = some (.string r0) := outs_cell h 1 _ rfl
  have x2 : w.cell? ⟨g, 2, none⟩ = some (.int .i64 vk0) := outs_cell h 2 _ rfl
  have x3 : w.cell? ⟨g, 3, none⟩ = some (.bool false) := outs_cell h 3 _ rfl
  have x4 : w.cell? ⟨g, 4, none⟩ = some (.slice none 0 0) := outs_cell h 4 _ rfl
  have x5 : w.cell? ⟨g, 5, none⟩ = some (.int .u64 0) := outs_cell h 5 _ rfl
  have x6 : w.cell? ⟨g, 6, none⟩ = some (.string vt0) := outs_cell h 6 _ rfl
  have x7 : w.cell? ⟨g, 7, none⟩ = some (.slice none 0 0) := outs_cell h 7 _ rfl
  have x8 : w.cell? ⟨g, 8, none⟩ = some (.int .i64 l0) := outs_cell h 8 _ rfl
  have x9 : w.cell? ⟨g, 9, none⟩ = some (.int .i64 c0) := outs_cell h 9 _ rfl
  have x10 : w.cell? ⟨g, 10, none⟩ = some (.int .i64 e0) := outs_cell h 10 _ rfl
  have x11 : w.cell? ⟨g, 11, none⟩ = some (.int .i64 f0) := outs_cell h 11 _ rfl
  clear h
  subst hk0
  go_enter Tryz.func16, Tryz.ntmps16
  go_wp2_with fail
  refine wp_loop_rounds 2 ?_
  rw [rounds_succ]
  go_wp2_with fail
  rw [rounds_succ]
  go_wp2_with fail
  go_ret
  exact ⟨rfl, (((Below.refl _ _).alloc (by simp <;> omega) _))⟩
set_option maxRecDepth 20000 in
set_option maxHeartbeats 8000000 in
theorem deep3 {w : World} {B g cap : Nat} (k0 : Int) (k1 : Int) (k2 : Int) (r0 : ByteArray) (vk0 : Int) (vt0 : ByteArray) (l0 c0 e0 f0 : Int) (r1 : ByteArray) (vk1 : Int) (vt1 : ByteArray) (l1 c1 e1 f1 : Int) (r2 : ByteArray) (vk2 : Int) (vt2 : ByteArray) (l2 c2 e2 f2 : Int) (hk0 : k0 = 8 ∨ k0 = 9) (hk1 : k1 = 2) (hk2 : k2 = 1) (h : Outs w B (.slice (some ⟨g, 0, none⟩) 3 cap) 3 ((pieceC k0 r0 vk0 vt0 l0 c0 e0 f0) ++ (pieceC k1 r1 vk1 vt1 l1 c1 e1 f1) ++ (pieceC k2 r2 vk2 vt2 l2 c2 e2 f2))) :
    Calls Tryz.prog 16 #[.slice (some ⟨g, 0, none⟩) 3 cap] w fun e w' => e = .returned (.bool false) ∧ Below w.heap.size w w' := by
  have hg := outs_lt h
  have x0 : w.cell? ⟨g, 0, none⟩ = some (.int .i64 k0) := outs_cell h 0 _ rfl
  have x1 : w.cell? ⟨g, 1, none⟩ = some (.string r0) := outs_cell h 1 _ rfl
  have x2 : w.cell? ⟨g, 2, none⟩ = some (.int .i64 vk0) := outs_cell h 2 _ rfl
  have x3 : w.cell? ⟨g, 3, none⟩ = some (.bool false) := outs_cell h 3 _ rfl
  have x4 : w.cell? ⟨g, 4, none⟩ = some (.slice none 0 0) := outs_cell h 4 _ rfl
  have x5 : w.cell? ⟨g, 5, none⟩ = some (.int .u64 0) := outs_cell h 5 _ rfl
  have x6 : w.cell? ⟨g, 6, none⟩ = some (.string vt0) := outs_cell h 6 _ rfl
  have x7 : w.cell? ⟨g, 7, none⟩ = some (.slice none 0 0) := outs_cell h 7 _ rfl
  have x8 : w.cell? ⟨g, 8, none⟩ = some (.int .i64 l0) := outs_cell h 8 _ rfl
  have x9 : w.cell? ⟨g, 9, none⟩ = some (.int .i64 c0) := outs_cell h 9 _ rfl
  have x10 : w.cell? ⟨g, 10, none⟩ = some (.int .i64 e0) := outs_cell h 10 _ rfl
  have x11 : w.cell? ⟨g, 11, none⟩ = some (.int .i64 f0) := outs_cell h 11 _ rfl
  have x12 : w.cell? ⟨g, 12, none⟩ = some (.int .i64 k1) := outs_cell h 12 _ rfl
  have x13 : w.cell? ⟨g, 13, none⟩ = some (.string r1) := outs_cell h 13 _ rfl
  have x14 : w.cell? ⟨g, 14, none⟩ = some (.int .i64 vk1) := outs_cell h 14 _ rfl
  have x15 : w.cell? ⟨g, 15, none⟩ = some (.bool false) := outs_cell h 15 _ rfl
  have x16 : w.cell? ⟨g, 16, none⟩ = some (.slice none 0 0) := outs_cell h 16 _ rfl
  have x17 : w.cell? ⟨g, 17, none⟩ = some (.int .u64 0) := outs_cell h 17 _ rfl
  have x18 : w.cell? ⟨g, 18, none⟩ = some (.string vt1) := outs_cell h 18 _ rfl
  have x19 : w.cell? ⟨g, 19, none⟩ = some (.slice none 0 0) := outs_cell h 19 _ rfl
  have x20 : w.cell? ⟨g, 20, none⟩ = some (.int .i64 l1) := outs_cell h 20 _ rfl
  have x21 : w.cell? ⟨g, 21, none⟩ = some (.int .i64 c1) := outs_cell h 21 _ rfl
  have x22 : w.cell? ⟨g, 22, none⟩ = some (.int .i64 e1) := outs_cell h 22 _ rfl
  have x23 : w.cell? ⟨g, 23, none⟩ = some (.int .i64 f1) := outs_cell h 23 _ rfl
  have x24 : w.cell? ⟨g, 24, none⟩ = some (.int .i64 k2) := outs_cell h 24 _ rfl
  have x25 : w.cell? ⟨g, 25, none⟩ = some (.string r2) := outs_cell h 25 _ rfl
  have x26 : w.cell? ⟨g, 26, none⟩ = some (.int .i64 vk2) := outs_cell h 26 _ rfl
  have x27 : w.cell? ⟨g, 27, none⟩ = some (.bool false) := outs_cell h 27 _ rfl
  have x28 : w.cell? ⟨g, 28, none⟩ = some (.slice none 0 0) := outs_cell h 28 _ rfl
  have x29 : w.cell? ⟨g, 29, none⟩ = some (.int .u64 0) := outs_cell h 29 _ rfl
  have x30 : w.cell? ⟨g, 30, none⟩ = some (.string vt2) := outs_cell h 30 _ rfl
  have x31 : w.cell? ⟨g, 31, none⟩ = some (.slice none 0 0) := outs_cell h 31 _ rfl
  have x32 : w.cell? ⟨g, 32, none⟩ = some (.int .i64 l2) := outs_cell h 32 _ rfl
  have x33 : w.cell? ⟨g, 33, none⟩ = some (.int .i64 c2) := outs_cell h 33 _ rfl
  have x34 : w.cell? ⟨g, 34, none⟩ = some (.int .i64 e2) := outs_cell h 34 _ rfl
  have x35 : w.cell? ⟨g, 35, none⟩ = some (.int .i64 f2) := outs_cell h 35 _ rfl
  clear h
  subst hk1
  subst hk2
  rcases hk0 with rfl | rfl
  all_goals
    go_enter Tryz.func16, Tryz.ntmps16
    go_wp2_with fail
    refine wp_loop_rounds 4 ?_
    rw [rounds_succ]
    go_wp2_with fail
    rw [rounds_succ]
    go_wp2_with fail
    rw [rounds_succ]
    go_wp2_with fail
    rw [rounds_succ]
    go_wp2_with fail
    go_ret
    exact ⟨rfl, (((((((Below.refl _ _).alloc (by simp <;> omega) _)).alloc (by simp <;> omega) _)).alloc (by simp <;> omega) _))⟩
end Go.Proofs.YtghendoiohfolaaGreatDoor
