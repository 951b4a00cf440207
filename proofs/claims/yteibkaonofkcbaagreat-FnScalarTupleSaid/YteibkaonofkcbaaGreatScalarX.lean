/- A value without parts made a value of the package. -/
import Derived.Test.YteibkaonofkcbaaGreatTupJoinK
import Derived.Test.YteibkaonofkcbaaGreatTupJoinH
import Derived.Laws.Externs
import Derived.Deep.RegionHeld3
set_option linter.unusedSimpArgs false
set_option linter.unusedVariables false
namespace Go.Proofs.YteibkaonofkcbaaGreat
open Go.RowKit
attribute [local go_sem ↓] Go.wp_at_zero Go.wp_at_succ
@[go_sem] theorem Tryz.ofBits (n : Int) (w : World) : (callFunc 59 #[.int .u64 n]).run Tryz.prog w = .ok (.value (.float .f64 n.toNat)) w := by
  rw [run_callFunc_extern (e := Extern.MathFloatBits.float64frombits) Tryz.func59 (by kernel_rfl) (by kernel_rfl) (by kernel_rfl) (by kernel_rfl)]; rfl
def ScPost (s : Sx) (w : World) (e : Ending) (w' : World) : Prop := ∃ u, e = .returned (.tuple #[u, .bool true]) ∧ TVal w' u s ∧ Below w.heap.size w w'
set_option maxRecDepth 20000 in
theorem float_of (n : Nat) (w : World) : Calls Tryz.prog 61 #[.int .u64 (n : Int)] w fun e w' => e = .returned (.float .f64 n) ∧ w = w' := by
  go_enter Tryz.func61, Tryz.ntmps61
  go_wp2
  go_ret
  exact ⟨rfl, rfl⟩
theorem val_below (w : World) (k : Int) (neg : Bool) (a : Option Addr) (n c : Nat) (b : Int) (tx : ByteArray) : Below w.heap.size w (w.alloc (.cells #[.int .i64 k, .bool neg, .slice a n c, .int .u64 b, .string tx, .slice none 0 0] 33)) := (Below.refl w.heap.size w).alloc (Nat.le_refl _) _
set_option maxRecDepth 100000 in
set_option maxHeartbeats 4000000 in
theorem scalar_x (v : Value) (s : Sx) (w : World) (hv : XVal w 0 v s) :
    Calls Tryz.prog 42 #[.int .i64 (kx s), v] w (ScPost s w) := by
  cases s with
  | none =>
    obtain rfl := hv
    have HB := Lib.hid (val_below w 0 false none 0 0 0 ⟨#[]⟩)
    unfold kx pv
    go_enter Tryz.func42, Tryz.ntmps42
    go_wp2
    go_ret2
    exact ⟨_, rfl, rfl, HB.out⟩
  | bool b =>
    obtain rfl := hv
    unfold kx pv
    cases b with
    | false =>
      have HB := Lib.hid (val_below w 1 false none 0 0 0 ⟨#[]⟩)
      go_enter Tryz.func42, Tryz.ntmps42
      have hc : ((w.alloc (.cells #[.int .i64 1, .bool false, .slice none 0 0, .int .u64 0, .string ⟨#[]⟩, .slice none 0 0] 33)).drew).cell? ⟨w.heap.size, 3, none⟩ = some (.int .u64 0) := ((Blk.new w 33 #[.int .i64 1, .bool false, .slice none 0 0, .int .u64 0, .string ⟨#[]⟩, .slice none 0 0]).drew.cell 3).trans rfl
      go_wp2_with fail
      go_region_held3 (fun W => W.cell? ⟨w.heap.size, 3, none⟩ = some (.int .u64 0)) (first | exact hc | go_keep) (fail)
      go_wp2
      go_ret2
      exact ⟨_, rfl, rfl, HB.out.drew⟩
    | true =>
      have HB := Lib.hid (val_below w 1 false none 0 0 1 ⟨#[]⟩)
      go_enter Tryz.func42, Tryz.ntmps42
      have hc : ((w.alloc (.cells #[.int .i64 1, .bool false, .slice none 0 0, .int .u64 1, .string ⟨#[]⟩, .slice none 0 0] 33)).drew).cell? ⟨w.heap.size, 3, none⟩ = some (.int .u64 1) := ((Blk.new w 33 #[.int .i64 1, .bool false, .slice none 0 0, .int .u64 1, .string ⟨#[]⟩, .slice none 0 0]).drew.cell 3).trans rfl
      go_wp2_with fail
      go_region_held3 (fun W => W.cell? ⟨w.heap.size, 3, none⟩ = some (.int .u64 1)) (first | exact hc | go_keep) (fail)
      go_wp2
      go_ret2
      exact ⟨_, rfl, rfl, HB.out.drew⟩
  | float f =>
    obtain rfl := hv
    have HB := Lib.hid (val_below w 3 false none 0 0 (f : Int) ⟨#[]⟩)
    unfold kx pv
    go_enter Tryz.func42, Tryz.ntmps42
    go_wp2_with fail
    refine (float_of f _).mono ?_
    rintro e w' ⟨rfl, rfl⟩
    go_wp2
    go_ret2
    exact ⟨_, rfl, rfl, HB.out⟩
  | str t =>
    obtain ⟨rfl, _⟩ := hv
    have HB := Lib.hid (val_below w 4 false none 0 0 0 t)
    unfold kx pv
    go_enter Tryz.func42, Tryz.ntmps42
    go_wp2
    go_ret2
    exact ⟨_, rfl, rfl, HB.out⟩
  | byt t =>
    obtain ⟨rfl, _⟩ := hv
    have HB := Lib.hid (val_below w 5 false none 0 0 0 t)
    unfold kx pv
    go_enter Tryz.func42, Tryz.ntmps42
    go_wp2
    go_ret2
    exact ⟨_, rfl, rfl, HB.out⟩
  | int neg l =>
    obtain ⟨hi, hl⟩ := hv
    obtain ⟨vs, hv, ho, hh, hng⟩ := hi
    obtain ⟨g, c, hvs, _, _, _, _⟩ := ho.form
    obtain ⟨r, hr⟩ : ∃ r, r = l.length := ⟨_, rfl⟩
    rw [← hr] at hvs
    subst hvs
    subst hv
    have hb0 := val_below w 2 neg (some ⟨g, 0, none⟩) r c 0 ⟨#[]⟩
    have HB := Lib.hid hb0
    have hiv : IVal w 0 (.agg #[.int .i64 2, .bool neg, .slice (some ⟨g, 0, none⟩) r c, .int .u64 0, .string ⟨#[]⟩, .slice none 0 0]) neg l := ⟨_, rfl, ho, hh, hng⟩
    have HW := Lib.hid (impl_whole 0 _ neg l _ (hiv.below hb0) (by omega))
    unfold kx
    clear ho hh hng hl hr hb0 hiv
    go_enter Tryz.func42, Tryz.ntmps42
    go_wp2_with fail
    refine HW.out.mono ?_
    rintro e w1 ⟨v1, rfl, hsi, hb1⟩
    have HB1 := Lib.hid (HB.out.trans (hb1.mono (by simp)))
    have HS := Lib.hid (hsi.base (Nat.zero_le _))
    clear hb1 hsi
    go_wp2
    go_ret2
    exact ⟨_, rfl, ⟨_, rfl, HS.out⟩, HB1.out⟩
end Go.Proofs.YteibkaonofkcbaaGreat
