/- Values as places. -/
import Derived.Test.YthoemgnfklhgjaaGreatDoorScalar
namespace Go.Proofs.YthoemgnfklhgjaaGreatDoor
open Go.RowKit
attribute [local go_sem ↓] Go.wp_at_zero Go.wp_at_succ
/-- An error: not nil. -/
def ErrV (v : Value) : Prop := ∃ b, v = .iface 166 (.pointer (some ⟨b, 0, none⟩))
theorem errors_new (t : ByteArray) (w : World) :
    Calls Tryz.prog 58 #[.string t] w fun e w' => ∃ v, e = .returned v ∧ ErrV v ∧ Below w.heap.size w w' := by
  have HB := Lib.hid ((Below.refl w.heap.size w).alloc (Nat.le_refl _) (.cells #[.string t] 168))
  go_enter Tryz.func58, Tryz.ntmps58
  go_wp2
  go_ret
  exact ⟨_, rfl, ⟨_, rfl⟩, HB.out⟩
@[go_sem] theorem Tryz.isInt (v : Value) (w : World) : (Instr.typeAssert (.iface 108 v) 50 108 true).run Tryz.prog w = .ok (.tuple #[v, .bool true]) w := by kernel_rfl
theorem blk_one {w : World} {g : Nat} {t : TypeId} {a : Value} (h : Blk w g t #[a]) : w.cell? ⟨g, 0, none⟩ = some a ∧ w.frozen? ⟨g, 0, none⟩ = false := ⟨(h.cell 0).trans rfl, h.frozen 0⟩
theorem one_put {w : World} {g : Nat} {t : TypeId} {a : Value} (h : Blk w g t #[a]) (u : Value) : Blk (w.setCell ⟨g, 0, none⟩ u) g t #[u] := h.put 0 u
theorem one_only (w : World) (g : Nat) (u : Value) : Only (· = g) w (w.setCell ⟨g, 0, none⟩ u) := (Only.refl (fun x => x = g) w).setCell (p := ⟨g, 0, none⟩) (.inl (rfl : g = g)) u
theorem only_trans {g : Nat} {w w1 w2 : World} (h : Only (· = g) w w1) (k : Only (· = g) w1 w2) : Only (· = g) w w2 := h.trans k
end Go.Proofs.YthoemgnfklhgjaaGreatDoor
