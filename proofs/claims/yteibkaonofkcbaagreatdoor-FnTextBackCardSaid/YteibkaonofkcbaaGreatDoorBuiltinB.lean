/- A builtin: made, bound to its receiver, read (as in IsTitle and ZzCall; for seats without them). -/
import Derived.Test.YteibkaonofkcbaaGreatDoorOwn2
import Derived.Test.YteibkaonofkcbaaGreatDoorStr
import Derived.Test.YteibkaonofkcbaaGreatDoorRows
import Derived.Test.YteibkaonofkcbaaGreatDoorChecked
import Derived.Deep.DrawnRows
import Derived.RegionTactic
import Derived.ChangeAlike
namespace Go.Proofs.YteibkaonofkcbaaGreatDoor
open Go.RowKit
/-- The block of a builtin: its name, its function, its receiver. -/
def BuiltinAt (w : World) (b : Nat) (name : ByteArray) (fn recv : Value) : Prop := Blk w b 114 #[.string name, fn, recv]
theorem name_of (b : Nat) (name : ByteArray) (fn recv : Value) (w : World) (hB : BuiltinAt w b name fn recv) : Calls Tryz.prog 29 #[.pointer (some ⟨b, 0, none⟩)] w fun e w' => e = .returned (.string name) ∧ w = w' := by
  have c0 := hB.cell 0
  simp only [List.getElem?_toArray, List.getElem?_cons_zero, List.getElem?_cons_succ] at c0
  clear hB
  go_enter Tryz.func29, Tryz.ntmps29
  go_wp2
  go_ret
  exact ⟨rfl, rfl⟩
theorem recv_of (b : Nat) (name : ByteArray) (fn recv : Value) (w : World) (hB : BuiltinAt w b name fn recv) : Calls Tryz.prog 27 #[.pointer (some ⟨b, 0, none⟩)] w fun e w' => e = .returned recv ∧ w = w' := by
  have c2 := hB.cell 2
  simp only [List.getElem?_toArray, List.getElem?_cons_zero, List.getElem?_cons_succ] at c2
  clear hB
  go_enter Tryz.func27, Tryz.ntmps27
  go_wp2
  go_ret
  exact ⟨rfl, rfl⟩
@[go_sem] theorem Tryz.assertStr (v : Value) (w : World) : (Instr.typeAssert (.iface 60 v) 49 60 false).run Tryz.prog w = .ok v w := by kernel_rfl
def MadeAt (name : ByteArray) (fn recv : Value) (w : World) (e : Ending) (w' : World) : Prop := ∃ b, e = .returned (.pointer (some ⟨b, 0, none⟩)) ∧ BuiltinAt w' b name fn recv ∧ Below w.heap.size w w'
theorem new_builtin (name : ByteArray) (f : Nat) (w : World) :
    Calls Tryz.prog 25 #[.string name, .func (.func f) #[] #[]] w (MadeAt name (.func (.func f) #[] #[]) .nilIface w) := by
  go_enter Tryz.func25, Tryz.ntmps25
  go_wp2
  go_ret
  exact ⟨_, rfl, Blk.new _ _ _, (Below.refl _ w).alloc (Nat.le_refl _) _⟩
set_option maxHeartbeats 1600000 in
theorem bind_recv (name : ByteArray) (f : Nat) (b : Nat) (recv : ByteArray) (w : World) (hB : BuiltinAt w b name (.func (.func f) #[] #[]) .nilIface) :
    Calls Tryz.prog 26 #[.pointer (some ⟨b, 0, none⟩), .iface 60 (.string recv)] w (MadeAt name (.func (.func f) #[] #[]) (.iface 60 (.string recv)) w) := by
  have c0 := hB.cell 0
  have c1 := hB.cell 1
  simp only [List.getElem?_toArray, List.getElem?_cons_zero, List.getElem?_cons_succ] at c0 c1
  have hlt := hB.lt
  clear hB
  go_enter Tryz.func26, Tryz.ntmps26
  go_wp2_with fail
  go_region
  all_goals
    go_wp2
    go_ret
    exact ⟨_, rfl, (Blk.new w 114 _).drew, ((Below.refl _ w).alloc (Nat.le_refl _) _).drew⟩
end Go.Proofs.YteibkaonofkcbaaGreatDoor
