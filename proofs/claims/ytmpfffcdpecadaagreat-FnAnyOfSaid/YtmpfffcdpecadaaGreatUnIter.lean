/- A list unpacked into a variable to go through. -/
import Derived.Test.YtmpfffcdpecadaaGreatIter
namespace Go.Proofs.YtmpfffcdpecadaaGreat
open Go.RowKit
attribute [local go_sem ↓] Go.wp_at_zero Go.wp_at_succ
@[go_sem] theorem Tryz.toIt0 (v : Value) (w : World) : (Instr.typeAssert (.iface 128 v) 20 112 true).run Tryz.prog w = .ok (.tuple #[.pointer none, .bool false]) w := by kernel_rfl
@[go_sem] theorem Tryz.toIt1 (v : Value) (w : World) : (Instr.typeAssert (.iface 128 v) 20 158 true).run Tryz.prog w = .ok (.tuple #[.pointer none, .bool false]) w := by kernel_rfl
@[go_sem] theorem Tryz.toIt2 (v : Value) (w : World) : (Instr.typeAssert (.iface 128 v) 20 161 true).run Tryz.prog w = .ok (.tuple #[.pointer none, .bool false]) w := by kernel_rfl
@[go_sem] theorem Tryz.toIt3 (v : Value) (w : World) : (Instr.typeAssert (.iface 128 v) 20 111 true).run Tryz.prog w = .ok (.tuple #[.pointer none, .bool false]) w := by kernel_rfl
@[go_sem] theorem Tryz.toIt4 (v : Value) (w : World) : (Instr.typeAssert (.iface 128 v) 20 162 true).run Tryz.prog w = .ok (.tuple #[.pointer none, .bool false]) w := by kernel_rfl
@[go_sem] theorem Tryz.toIt5 (v : Value) (w : World) : (Instr.typeAssert (.iface 128 v) 20 163 true).run Tryz.prog w = .ok (.tuple #[.pointer none, .bool false]) w := by kernel_rfl
@[go_sem] theorem Tryz.toIt6 (v : Value) (w : World) : (Instr.typeAssert (.iface 128 v) 20 164 true).run Tryz.prog w = .ok (.tuple #[.pointer none, .bool false]) w := by kernel_rfl
@[go_sem] theorem Tryz.toIt7 (v : Value) (w : World) : (Instr.typeAssert (.iface 128 v) 20 165 true).run Tryz.prog w = .ok (.tuple #[.pointer none, .bool false]) w := by kernel_rfl
@[go_sem] theorem Tryz.toIt8 (v : Value) (w : World) : (Instr.typeAssert (.iface 128 v) 20 166 true).run Tryz.prog w = .ok (.tuple #[.pointer none, .bool false]) w := by kernel_rfl
@[go_sem] theorem Tryz.toIt9 (v : Value) (w : World) : (Instr.typeAssert (.iface 128 v) 20 167 true).run Tryz.prog w = .ok (.tuple #[.pointer none, .bool false]) w := by kernel_rfl
@[go_sem] theorem Tryz.toIt10 (v : Value) (w : World) : (Instr.typeAssert (.iface 128 v) 20 168 true).run Tryz.prog w = .ok (.tuple #[.pointer none, .bool false]) w := by kernel_rfl
@[go_sem] theorem Tryz.toIt11 (v : Value) (w : World) : (Instr.typeAssert (.iface 128 v) 20 169 true).run Tryz.prog w = .ok (.tuple #[.pointer none, .bool false]) w := by kernel_rfl
@[go_sem] theorem Tryz.toIt12 (v : Value) (w : World) : (Instr.typeAssert (.iface 128 v) 20 170 true).run Tryz.prog w = .ok (.tuple #[.pointer none, .bool false]) w := by kernel_rfl
@[go_sem] theorem Tryz.toIt13 (v : Value) (w : World) : (Instr.typeAssert (.iface 128 v) 20 171 true).run Tryz.prog w = .ok (.tuple #[.pointer none, .bool false]) w := by kernel_rfl
@[go_sem] theorem Tryz.toIt14 (v : Value) (w : World) : (Instr.typeAssert (.iface 128 v) 20 172 true).run Tryz.prog w = .ok (.tuple #[.pointer none, .bool false]) w := by kernel_rfl
@[go_sem] theorem Tryz.toIt15 (v : Value) (w : World) : (Instr.typeAssert (.iface 128 v) 20 174 true).run Tryz.prog w = .ok (.tuple #[.pointer none, .bool false]) w := by kernel_rfl
@[go_sem] theorem Tryz.toIt16 (v : Value) (w : World) : (Instr.typeAssert (.iface 128 v) 20 175 true).run Tryz.prog w = .ok (.tuple #[.pointer none, .bool false]) w := by kernel_rfl
@[go_sem] theorem Tryz.toIt17 (v : Value) (w : World) : (Instr.typeAssert (.iface 128 v) 20 178 true).run Tryz.prog w = .ok (.tuple #[.pointer none, .bool false]) w := by kernel_rfl
@[go_sem] theorem Tryz.toIt (v : Value) (w : World) : (Instr.typeAssert (.iface 128 v) 20 128 true).run Tryz.prog w = .ok (.tuple #[v, .bool true]) w := by kernel_rfl
@[go_sem] theorem Tryz.isIter (v : Value) (w : World) : (Instr.typeAssert (.iface 42 v) 49 127 true).run Tryz.prog w = .ok (.tuple #[.iface 42 v, .bool true]) w := by kernel_rfl
set_option maxRecDepth 100000 in
theorem check_args (name : ByteArray) (a : Option Addr) (n c lo hi : Nat) (w : World) (h1 : lo ≤ n) (h2 : n ≤ hi) :
    Calls Tryz.prog 72 #[.string name, .slice a n c, .slice none 0 0, .int .i64 (lo : Int), .int .i64 (hi : Int)] w fun e w' => e = .returned .nilIface ∧ w = w' := by
  have d1 : decide ((n : Int) < (lo : Int)) = false := by simp; omega
  have d2 : decide ((hi : Int) < (n : Int)) = false := by simp; omega
  have d3 : decide (n < lo) = false := by simp; omega
  have d4 : decide (hi < n) = false := by simp; omega
  clear h1 h2
  go_enter Tryz.func72, Tryz.ntmps72
  go_wp2
  go_ret
  exact ⟨rfl, rfl⟩
set_option maxRecDepth 100000 in
set_option maxHeartbeats 4000000 in
theorem unpack_iter (v old : Value) (g : Nat) (w : World) (hK : Blk w g 127 #[old]) :
    Calls Tryz.prog 73 #[.iface 42 v, .iface 128 (.pointer (some ⟨g, 0, none⟩))] w fun e w' => e = .returned .nilIface ∧ Blk w' g 127 #[.iface 42 v] ∧ Only (· = g) w w' := by
  have HK := Lib.hid (hK.put 0 (.iface 42 v))
  have HO := Lib.hid ((Only.refl (· = g) w).setCell (p := ⟨g, 0, none⟩) (.inl (rfl : g = g)) (.iface 42 v))
  obtain ⟨c0, f0⟩ := blk_one hK
  clear hK
  go_enter Tryz.func73, Tryz.ntmps73
  go_wp2
  go_ret
  exact ⟨rfl, HK.out, HO.out⟩
set_option maxRecDepth 100000 in
set_option maxHeartbeats 4000000 in
theorem unpack_one (name : ByteArray) (v old : Value) (A ca P cp g : Nat) (w : World)
    (hA : w.cell? ⟨A, 0, none⟩ = some (.iface 42 v)) (hP : w.cell? ⟨P, 0, none⟩ = some (.iface 128 (.pointer (some ⟨g, 0, none⟩)))) (hG : Blk w g 127 #[old]) :
    Calls Tryz.prog 54 #[.string name, .slice (some ⟨A, 0, none⟩) 1 ca, .slice none 0 0, .int .i64 1, .slice (some ⟨P, 0, none⟩) 1 cp] w fun e w' => e = .returned .nilIface ∧ Blk w' g 127 #[.iface 42 v] ∧ Only (· = g) w w' := by
  have HG := Lib.hid hG
  clear hG
  go_enter Tryz.func54, Tryz.ntmps54
  go_wp2_with fail
  refine (check_args name _ 1 ca 1 1 _ (by omega) (by omega)).mono ?_
  rintro e w' ⟨rfl, rfl⟩
  go_wp2_with fail
  refine wp_loop_rounds 2 ?_
  rw [rounds_succ]
  go_wp2_with fail
  refine (unpack_iter v old g _ HG.out).mono ?_
  rintro e w1 ⟨rfl, hk1, ho1⟩
  have HK1 := Lib.hid hk1
  have HO1 := Lib.hid ho1
  clear hk1 ho1
  go_wp2_with fail
  rw [rounds_succ]
  go_wp2
  go_ret
  exact ⟨rfl, HK1.out, HO1.out⟩
end Go.Proofs.YtmpfffcdpecadaaGreat
