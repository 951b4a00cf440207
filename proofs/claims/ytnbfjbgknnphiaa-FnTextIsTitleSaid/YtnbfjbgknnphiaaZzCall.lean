/- A builtin is made, and bound to its receiver. -/
import Derived.Test.YtnbfjbgknnphiaaIsTitle
import Derived.RegionTactic
import Derived.ChangeAlike
namespace Go.Proofs.Ytnbfjbgknnphiaa
open Go.RowKit
def MadeAt (name : ByteArray) (fn recv : Value) (w : World) (e : Ending) (w' : World) : Prop := ∃ b, e = .returned (.pointer (some ⟨b, 0, none⟩)) ∧ BuiltinAt w' b name fn recv ∧ Below w.heap.size w w'
theorem new_builtin (name : ByteArray) (f : Nat) (w : World) :
    Calls Try.prog 13 #[.string name, .func (.func f) #[] #[]] w (MadeAt name (.func (.func f) #[] #[]) .nilIface w) := by
  go_enter Try.func13, Try.ntmps13
  go_wp2
  go_ret
  exact ⟨_, rfl, Blk.new _ _ _, (Below.refl _ w).alloc (Nat.le_refl _) _⟩
set_option maxHeartbeats 1600000 in
theorem bind_recv (name : ByteArray) (f : Nat) (b : Nat) (recv : ByteArray) (w : World) (hB : BuiltinAt w b name (.func (.func f) #[] #[]) .nilIface) :
    Calls Try.prog 14 #[.pointer (some ⟨b, 0, none⟩), .iface 43 (.string recv)] w (MadeAt name (.func (.func f) #[] #[]) (.iface 43 (.string recv)) w) := by
  have c0 := hB.cell 0
  have c1 := hB.cell 1
  simp only [List.getElem?_toArray, List.getElem?_cons_zero, List.getElem?_cons_succ] at c0 c1
  have hlt := hB.lt
  clear hB
  go_enter Try.func14, Try.ntmps14
  go_wp2_with fail
  go_region
  all_goals
    go_wp2
    go_ret
    exact ⟨_, rfl, (Blk.new w 52 _).drew, ((Below.refl _ w).alloc (Nat.le_refl _) _).drew⟩
end Go.Proofs.Ytnbfjbgknnphiaa
