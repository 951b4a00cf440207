/- Arguments by place, unpacked into variables. -/
import Derived.Test.YthoemgnfklhgjaaGreatDoorAsIdx
import Derived.Deep.LoopGhost
namespace Go.Proofs.YthoemgnfklhgjaaGreatDoor
open Go.RowKit
attribute [local go_sem ↓] Go.wp_at_zero Go.wp_at_succ
@[go_sem] theorem Tryz.toVal2 (v : Value) (w : World) : (Instr.typeAssert (.iface 91 v) 20 136 true).run Tryz.prog w = .ok (.tuple #[.pointer none, .bool false]) w := by kernel_rfl
@[go_sem] theorem Tryz.toStr1 (v : Value) (w : World) : (Instr.typeAssert (.iface 91 v) 20 91 true).run Tryz.prog w = .ok (.tuple #[v, .bool true]) w := by kernel_rfl
@[go_sem] theorem Tryz.isStr1 (v : Value) (w : World) : (Instr.typeAssert (.iface 63 v) 50 63 true).run Tryz.prog w = .ok (.tuple #[v, .bool true]) w := by kernel_rfl
theorem as_string (t : ByteArray) (w : World) :
    Calls Tryz.prog 69 #[.iface 63 (.string t)] w fun e w' => e = .returned (.tuple #[.string t, .bool true]) ∧ w = w' := by
  go_enter Tryz.func69, Tryz.ntmps69
  go_wp2
  go_ret2
  exact ⟨rfl, rfl⟩
set_option maxRecDepth 100000 in
set_option maxHeartbeats 4000000 in
theorem unpack_str (t : ByteArray) (old : Value) (g : Nat) (w : World) (hK : Blk w g 9 #[old]) :
    Calls Tryz.prog 57 #[.iface 63 (.string t), .iface 91 (.pointer (some ⟨g, 0, none⟩))] w fun e w' => e = .returned .nilIface ∧ Blk w' g 9 #[.string t] ∧ Only (· = g) w w' := by
  have HK := Lib.hid hK
  obtain ⟨c0, f0⟩ := blk_one hK
  clear hK
  go_enter Tryz.func57, Tryz.ntmps57
  go_wp2_with fail
  refine (as_string t _).mono ?_
  rintro e w' ⟨rfl, rfl⟩
  go_wp2
  go_ret
  exact ⟨rfl, one_put HK.out _, one_only w g _⟩
set_option maxRecDepth 100000 in
theorem check_args (name : ByteArray) (a : Option Addr) (n c lo hi : Nat) (w : World) (h1 : lo ≤ n) (h2 : n ≤ hi) :
    Calls Tryz.prog 56 #[.string name, .slice a n c, .slice none 0 0, .int .i64 (lo : Int), .int .i64 (hi : Int)] w fun e w' => e = .returned .nilIface ∧ w = w' := by
  have d1 : decide ((n : Int) < (lo : Int)) = false := by simp; omega
  have d2 : decide ((hi : Int) < (n : Int)) = false := by simp; omega
  have d3 : decide (n < lo) = false := by simp; omega
  have d4 : decide (hi < n) = false := by simp; omega
  clear h1 h2
  go_enter Tryz.func56, Tryz.ntmps56
  go_wp2
  go_ret
  exact ⟨rfl, rfl⟩
end Go.Proofs.YthoemgnfklhgjaaGreatDoor
