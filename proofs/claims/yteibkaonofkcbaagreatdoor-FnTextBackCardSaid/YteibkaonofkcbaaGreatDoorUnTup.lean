/- A tuple unpacked into a variable to go through. -/
import Derived.Test.YteibkaonofkcbaaGreatDoorUnpackSp
namespace Go.Proofs.YteibkaonofkcbaaGreatDoor
open Go.RowKit
attribute [local go_sem ↓] Go.wp_at_zero Go.wp_at_succ
@[go_sem] theorem Tryz.toIt0 (v : Value) (w : World) : (Instr.typeAssert (.iface 92 v) 20 80 true).run Tryz.prog w = .ok (.tuple #[.pointer none, .bool false]) w := by kernel_rfl
@[go_sem] theorem Tryz.toIt1 (v : Value) (w : World) : (Instr.typeAssert (.iface 92 v) 20 135 true).run Tryz.prog w = .ok (.tuple #[.pointer none, .bool false]) w := by kernel_rfl
@[go_sem] theorem Tryz.toIt2 (v : Value) (w : World) : (Instr.typeAssert (.iface 92 v) 20 136 true).run Tryz.prog w = .ok (.tuple #[.pointer none, .bool false]) w := by kernel_rfl
@[go_sem] theorem Tryz.toIt3 (v : Value) (w : World) : (Instr.typeAssert (.iface 92 v) 20 81 true).run Tryz.prog w = .ok (.tuple #[.pointer none, .bool false]) w := by kernel_rfl
@[go_sem] theorem Tryz.toIt4 (v : Value) (w : World) : (Instr.typeAssert (.iface 92 v) 20 138 true).run Tryz.prog w = .ok (.tuple #[.pointer none, .bool false]) w := by kernel_rfl
@[go_sem] theorem Tryz.toIt5 (v : Value) (w : World) : (Instr.typeAssert (.iface 92 v) 20 139 true).run Tryz.prog w = .ok (.tuple #[.pointer none, .bool false]) w := by kernel_rfl
@[go_sem] theorem Tryz.toIt6 (v : Value) (w : World) : (Instr.typeAssert (.iface 92 v) 20 140 true).run Tryz.prog w = .ok (.tuple #[.pointer none, .bool false]) w := by kernel_rfl
@[go_sem] theorem Tryz.toIt7 (v : Value) (w : World) : (Instr.typeAssert (.iface 92 v) 20 141 true).run Tryz.prog w = .ok (.tuple #[.pointer none, .bool false]) w := by kernel_rfl
@[go_sem] theorem Tryz.toIt8 (v : Value) (w : World) : (Instr.typeAssert (.iface 92 v) 20 142 true).run Tryz.prog w = .ok (.tuple #[.pointer none, .bool false]) w := by kernel_rfl
@[go_sem] theorem Tryz.toIt9 (v : Value) (w : World) : (Instr.typeAssert (.iface 92 v) 20 126 true).run Tryz.prog w = .ok (.tuple #[.pointer none, .bool false]) w := by kernel_rfl
@[go_sem] theorem Tryz.toIt10 (v : Value) (w : World) : (Instr.typeAssert (.iface 92 v) 20 143 true).run Tryz.prog w = .ok (.tuple #[.pointer none, .bool false]) w := by kernel_rfl
@[go_sem] theorem Tryz.toIt11 (v : Value) (w : World) : (Instr.typeAssert (.iface 92 v) 20 144 true).run Tryz.prog w = .ok (.tuple #[.pointer none, .bool false]) w := by kernel_rfl
@[go_sem] theorem Tryz.toIt12 (v : Value) (w : World) : (Instr.typeAssert (.iface 92 v) 20 145 true).run Tryz.prog w = .ok (.tuple #[.pointer none, .bool false]) w := by kernel_rfl
@[go_sem] theorem Tryz.toIt13 (v : Value) (w : World) : (Instr.typeAssert (.iface 92 v) 20 146 true).run Tryz.prog w = .ok (.tuple #[.pointer none, .bool false]) w := by kernel_rfl
@[go_sem] theorem Tryz.toIt14 (v : Value) (w : World) : (Instr.typeAssert (.iface 92 v) 20 147 true).run Tryz.prog w = .ok (.tuple #[.pointer none, .bool false]) w := by kernel_rfl
@[go_sem] theorem Tryz.toIt15 (v : Value) (w : World) : (Instr.typeAssert (.iface 92 v) 20 149 true).run Tryz.prog w = .ok (.tuple #[.pointer none, .bool false]) w := by kernel_rfl
@[go_sem] theorem Tryz.toIt16 (v : Value) (w : World) : (Instr.typeAssert (.iface 92 v) 20 151 true).run Tryz.prog w = .ok (.tuple #[.pointer none, .bool false]) w := by kernel_rfl
@[go_sem] theorem Tryz.toIt17 (v : Value) (w : World) : (Instr.typeAssert (.iface 92 v) 20 154 true).run Tryz.prog w = .ok (.tuple #[.pointer none, .bool false]) w := by kernel_rfl
@[go_sem] theorem Tryz.toIt (v : Value) (w : World) : (Instr.typeAssert (.iface 92 v) 20 92 true).run Tryz.prog w = .ok (.tuple #[v, .bool true]) w := by kernel_rfl
@[go_sem] theorem Tryz.isIterT (v : Value) (w : World) : (Instr.typeAssert (.iface 56 v) 49 91 true).run Tryz.prog w = .ok (.tuple #[.iface 56 v, .bool true]) w := by kernel_rfl
set_option maxRecDepth 100000 in
set_option maxHeartbeats 4000000 in
theorem unpack_iter (v old : Value) (g : Nat) (w : World) (hK : Blk w g 91 #[old]) :
    Calls Tryz.prog 44 #[.iface 56 v, .iface 92 (.pointer (some ⟨g, 0, none⟩))] w fun e w' => e = .returned .nilIface ∧ Blk w' g 91 #[.iface 56 v] ∧ Only (· = g) w w' := by
  have HK := Lib.hid (hK.put 0 (.iface 56 v))
  have HO := Lib.hid ((Only.refl (· = g) w).setCell (p := ⟨g, 0, none⟩) (.inl (rfl : g = g)) (.iface 56 v))
  obtain ⟨c0, f0⟩ := blk_one hK
  clear hK
  go_enter Tryz.func44, Tryz.ntmps44
  go_wp2
  go_ret
  exact ⟨rfl, HK.out, HO.out⟩
set_option maxRecDepth 100000 in
set_option maxHeartbeats 4000000 in
theorem unpack_one (name : ByteArray) (v old : Value) (A ca P cp g : Nat) (w : World)
    (hA : w.cell? ⟨A, 0, none⟩ = some (.iface 56 v)) (hP : w.cell? ⟨P, 0, none⟩ = some (.iface 92 (.pointer (some ⟨g, 0, none⟩)))) (hG : Blk w g 91 #[old]) :
    Calls Tryz.prog 28 #[.string name, .slice (some ⟨A, 0, none⟩) 1 ca, .slice none 0 0, .int .i64 1, .slice (some ⟨P, 0, none⟩) 1 cp] w fun e w' => e = .returned .nilIface ∧ Blk w' g 91 #[.iface 56 v] ∧ Only (· = g) w w' := by
  have HG := Lib.hid hG
  clear hG
  go_enter Tryz.func28, Tryz.ntmps28
  go_wp2_with fail
  refine (check_args name _ 1 ca 1 1 _ (by omega) (by omega)).mono ?_
  rintro e w' ⟨rfl, rfl⟩
  go_wp2_with fail
  refine wp_loop_rounds 2 ?_
  rw [rounds_succ]
  go_wp2_with fail
  refine (unpack_iter v old g _ HG.out).mono ?_
  rintro e w1 ⟨rfl, hk1, ho1⟩
  have HK1 := Lib.hid hk1
  have HO1 := Lib.hid ho1
  clear hk1 ho1
  go_wp2_with fail
  rw [rounds_succ]
  go_wp2
  go_ret
  exact ⟨rfl, HK1.out, HO1.out⟩
end Go.Proofs.YteibkaonofkcbaaGreatDoor
