/- Values as places. -/
import Derived.Test.YthoemgnfklhgjaaGreatScalar
namespace Go.Proofs.YthoemgnfklhgjaaGreat
open Go.RowKit
attribute [local go_sem ↓] Go.wp_at_zero Go.wp_at_succ
/-- An error: not nil. -/
def ErrV (v : Value) : Prop := ∃ b, v = .iface 179 (.pointer (some ⟨b, 0, none⟩))
theorem errors_new (t : ByteArray) (w : World) :
    Calls Tryz.prog 76 #[.string t] w fun e w' => ∃ v, e = .returned v ∧ ErrV v ∧ Below w.heap.size w w' := by
  have HB := Lib.hid ((Below.refl w.heap.size w).alloc (Nat.le_refl _) (.cells #[.string t] 181))
  go_enter Tryz.func76, Tryz.ntmps76
  go_wp2
  go_ret
  exact ⟨_, rfl, ⟨_, rfl⟩, HB.out⟩
@[go_sem] theorem Tryz.isInt (v : Value) (w : World) : (Instr.typeAssert (.iface 72 v) 53 72 true).run Tryz.prog w = .ok (.tuple #[v, .bool true]) w := by kernel_rfl
@[go_sem] theorem Tryz.noInt1 (v : Value) (w : World) : (Instr.typeAssert (.iface 120 v) 53 72 true).run Tryz.prog w = .ok (.tuple #[.agg #[.int .i64 0, .pointer none], .bool false]) w := by kernel_rfl
@[go_sem] theorem Tryz.noInt2 (v : Value) (w : World) : (Instr.typeAssert (.iface 58 v) 53 72 true).run Tryz.prog w = .ok (.tuple #[.agg #[.int .i64 0, .pointer none], .bool false]) w := by kernel_rfl
def I32Post (s : Sc) (w : World) (e : Ending) (w' : World) : Prop :=
  ((∃ n, s = .int n ∧ e = .returned (.tuple #[.int .i64 n, .nilIface])) ∨ ((∀ n, s ≠ .int n) ∧ ∃ v, e = .returned (.tuple #[.int .i64 0, v]) ∧ ErrV v)) ∧ Below w.heap.size w w'
set_option maxRecDepth 100000 in
set_option maxHeartbeats 4000000 in
theorem as_int32 (s : Sc) (w : World) :
    Calls Tryz.prog 88 #[sv s] w (I32Post s w) := by
  cases s with
  | none =>
    have HB := Lib.hid ((Below.refl w.heap.size w).alloc (Nat.le_refl _) (.cells #[.int .i64 0, .pointer none] 72))
    go_enter Tryz.func88, Tryz.ntmps88
    unfold sv
    go_wp2_with fail
    refine (errors_new _ _).mono ?_
    rintro e w1 ⟨v, rfl, hv, hb⟩
    have HB1 := Lib.hid (HB.out.trans (hb.mono (by simp)))
    have HV := Lib.hid hv
    obtain ⟨b, hvb⟩ := hv
    subst hvb
    clear hb
    go_wp2
    go_ret2
    exact ⟨.inr ⟨fun n h => (nomatch h), _, rfl, HV.out⟩, HB1.out⟩
  | str t =>
    have HB := Lib.hid ((Below.refl w.heap.size w).alloc (Nat.le_refl _) (.cells #[.int .i64 0, .pointer none] 72))
    go_enter Tryz.func88, Tryz.ntmps88
    unfold sv
    go_wp2_with fail
    refine (errors_new _ _).mono ?_
    rintro e w1 ⟨v, rfl, hv, hb⟩
    have HB1 := Lib.hid (HB.out.trans (hb.mono (by simp)))
    have HV := Lib.hid hv
    obtain ⟨b, hvb⟩ := hv
    subst hvb
    clear hb
    go_wp2
    go_ret2
    exact ⟨.inr ⟨fun n h => (nomatch h), _, rfl, HV.out⟩, HB1.out⟩
  | int n =>
    have HB := Lib.hid ((Below.refl w.heap.size w).alloc (Nat.le_refl _) (.cells #[.int .i64 n, .pointer none] 72))
    go_enter Tryz.func88, Tryz.ntmps88
    unfold sv
    go_wp2_with fail
    refine (int_get n none _).mono ?_
    rintro e w1 ⟨rfl, hb⟩
    have HB1 := Lib.hid (HB.out.trans (hb.mono (by simp)))
    clear hb
    go_wp2
    go_ret2
    exact ⟨.inl ⟨n, rfl, rfl⟩, HB1.out⟩
/-- Where a place stands: nothing: as it was; an int: itself, or from the end on. -/
def idx (s : Sc) (len d : Int) : Option Int :=
  match s with
  | .none => some d
  | .int n => some (if n < 0 then n + len else n)
  | .str _ => none
@[go_sem] theorem Tryz.eqNone (w : World) : (binOp .neq 53 (.iface 120 (.int .u8 0)) (.iface 120 (.int .u8 0))).run Tryz.prog w = .ok (.bool false) w := by kernel_rfl
@[go_sem] theorem Tryz.neNone1 (v : Value) (w : World) : (binOp .neq 53 (.iface 72 v) (.iface 120 (.int .u8 0))).run Tryz.prog w = .ok (.bool true) w := by kernel_rfl
@[go_sem] theorem Tryz.neNone2 (v : Value) (w : World) : (binOp .neq 53 (.iface 58 v) (.iface 120 (.int .u8 0))).run Tryz.prog w = .ok (.bool true) w := by kernel_rfl
def IdxPost (s : Sc) (len d : Int) (g : Nat) (w : World) (e : Ending) (w' : World) : Prop :=
  ((∃ r, idx s len d = some r ∧ e = .returned .nilIface ∧ Blk w' g 3 #[.int .i64 r]) ∨ (idx s len d = none ∧ (∃ v, e = .returned v ∧ ErrV v) ∧ Blk w' g 3 #[.int .i64 0])) ∧ Only (· = g) w w'
end Go.Proofs.YthoemgnfklhgjaaGreat
