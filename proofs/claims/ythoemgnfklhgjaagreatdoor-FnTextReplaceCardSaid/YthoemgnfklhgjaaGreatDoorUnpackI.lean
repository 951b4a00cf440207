/- An argument unpacked into a variable that is an int. -/
import Derived.Test.YthoemgnfklhgjaaGreatDoorUnpack
import Derived.Test.YthoemgnfklhgjaaGreatDoorIntGet
namespace Go.Proofs.YthoemgnfklhgjaaGreatDoor
open Go.RowKit
attribute [local go_sem ↓] Go.wp_at_zero Go.wp_at_succ
set_option maxRecDepth 20000 in
theorem sint64_small (n : Int) (w : World) :
    Calls Tryz.prog 82 #[.agg #[.int .i64 n, .pointer none]] w fun e w' => e = .returned (.tuple #[.int .i64 n, .bool true]) ∧ Below w.heap.size w w' := by
  go_enter Tryz.func82, Tryz.ntmps82
  go_wp2_with fail
  refine (int_get n none _).mono ?_
  rintro e w1 ⟨rfl, hb⟩
  have hb2 := ((Below.refl w.heap.size w).alloc (Nat.le_refl _) (.cells #[.int .i64 n, .pointer none] 108)).trans (hb.mono (by simp))
  clear hb
  go_wp2
  go_ret2
  exact ⟨rfl, hb2⟩
@[go_sem] theorem Tryz.toI92 (v : Value) (w : World) : (Instr.typeAssert (.iface 92 v) 20 92 true).run Tryz.prog w = .ok (.tuple #[v, .bool true]) w := by kernel_rfl
@[go_sem] theorem Tryz.toIv (v : Value) (w : World) : (Instr.typeAssert (.iface 92 v) 20 136 true).run Tryz.prog w = .ok (.tuple #[.pointer none, .bool false]) w := by kernel_rfl
@[go_sem] theorem Tryz.toIs (v : Value) (w : World) : (Instr.typeAssert (.iface 92 v) 20 91 true).run Tryz.prog w = .ok (.tuple #[.pointer none, .bool false]) w := by kernel_rfl
@[go_sem] theorem Tryz.toIb (v : Value) (w : World) : (Instr.typeAssert (.iface 92 v) 20 138 true).run Tryz.prog w = .ok (.tuple #[.pointer none, .bool false]) w := by kernel_rfl
@[go_sem] theorem Tryz.toI0 (v : Value) (w : World) : (Instr.typeAssert (.iface 92 v) 20 140 true).run Tryz.prog w = .ok (.tuple #[.pointer none, .bool false]) w := by kernel_rfl
@[go_sem] theorem Tryz.toI1 (v : Value) (w : World) : (Instr.typeAssert (.iface 92 v) 20 141 true).run Tryz.prog w = .ok (.tuple #[.pointer none, .bool false]) w := by kernel_rfl
@[go_sem] theorem Tryz.toI2 (v : Value) (w : World) : (Instr.typeAssert (.iface 92 v) 20 142 true).run Tryz.prog w = .ok (.tuple #[.pointer none, .bool false]) w := by kernel_rfl
@[go_sem] theorem Tryz.toI3 (v : Value) (w : World) : (Instr.typeAssert (.iface 92 v) 20 143 true).run Tryz.prog w = .ok (.tuple #[.pointer none, .bool false]) w := by kernel_rfl
@[go_sem] theorem Tryz.toI4 (v : Value) (w : World) : (Instr.typeAssert (.iface 92 v) 20 144 true).run Tryz.prog w = .ok (.tuple #[.pointer none, .bool false]) w := by kernel_rfl
@[go_sem] theorem Tryz.toI5 (v : Value) (w : World) : (Instr.typeAssert (.iface 92 v) 20 145 true).run Tryz.prog w = .ok (.tuple #[.pointer none, .bool false]) w := by kernel_rfl
@[go_sem] theorem Tryz.toI6 (v : Value) (w : World) : (Instr.typeAssert (.iface 92 v) 20 146 true).run Tryz.prog w = .ok (.tuple #[.pointer none, .bool false]) w := by kernel_rfl
@[go_sem] theorem Tryz.toI7 (v : Value) (w : World) : (Instr.typeAssert (.iface 92 v) 20 147 true).run Tryz.prog w = .ok (.tuple #[.pointer none, .bool false]) w := by kernel_rfl
@[go_sem] theorem Tryz.toI8 (v : Value) (w : World) : (Instr.typeAssert (.iface 92 v) 20 148 true).run Tryz.prog w = .ok (.tuple #[.pointer none, .bool false]) w := by kernel_rfl
@[go_sem] theorem Tryz.toI9 (v : Value) (w : World) : (Instr.typeAssert (.iface 92 v) 20 149 true).run Tryz.prog w = .ok (.tuple #[.pointer none, .bool false]) w := by kernel_rfl
set_option maxRecDepth 100000 in
set_option maxHeartbeats 4000000 in
theorem as_int (n : Int) (old : Value) (g : Nat) (w : World) (hK : Blk w g 3 #[old]) :
    Calls Tryz.prog 70 #[.iface 108 (.agg #[.int .i64 n, .pointer none]), .iface 92 (.pointer (some ⟨g, 0, none⟩))] w fun e w' => e = .returned .nilIface ∧ Blk w' g 3 #[.int .i64 n] ∧ Only (· = g) w w' := by
  have HO0 := Lib.hid ((Only.refl (· = g) w).alloc (.cells #[.int .i64 n, .pointer none] 108))
  have HK := Lib.hid (hK.alloc (.cells #[.int .i64 n, .pointer none] 108))
  clear hK
  go_enter Tryz.func70, Tryz.ntmps70
  go_wp2_with fail
  refine (sint64_small n _).mono ?_
  rintro e w1 ⟨rfl, hb⟩
  have HO1 := Lib.hid (HO0.out.below hb)
  have HK1 := Lib.hid (HK.out.below hb HK.out.lt)
  obtain ⟨c0, f0⟩ := blk_one HK1.out
  clear hb
  go_wp2
  go_ret
  exact ⟨rfl, one_put HK1.out _, HO1.out.trans (one_only w1 g _)⟩
set_option maxRecDepth 100000 in
set_option maxHeartbeats 4000000 in
theorem unpack_int (n : Int) (old : Value) (g : Nat) (w : World) (hK : Blk w g 3 #[old]) :
    Calls Tryz.prog 57 #[.iface 108 (.agg #[.int .i64 n, .pointer none]), .iface 92 (.pointer (some ⟨g, 0, none⟩))] w fun e w' => e = .returned .nilIface ∧ Blk w' g 3 #[.int .i64 n] ∧ Only (· = g) w w' := by
  have HK := Lib.hid hK
  clear hK
  go_enter Tryz.func57, Tryz.ntmps57
  go_wp2_with fail
  refine (as_int n old g _ HK.out).mono ?_
  rintro e w' ⟨rfl, hk, ho⟩
  have HK1 := Lib.hid hk
  have HO1 := Lib.hid ho
  clear hk ho
  go_wp2
  go_ret
  exact ⟨rfl, HK1.out, HO1.out⟩
structure VarsR (w : World) (g : Nat) (t u v : Value) : Prop where
  a : Blk w g 9 #[t]
  b : Blk w (g + 1) 9 #[u]
  c : Blk w (g + 1 + 1) 3 #[v]
def inG (g x : Nat) : Prop := x = g ∨ x = g + 1 ∨ x = g + 1 + 1
theorem only_in {g k : Nat} (hk : inG g k) {w w' : World} (h : Only (· = k) w w') : Only (inG g) w w' := h.mono fun x _ e => by subst e; exact hk
def cntOf (c : Option Int) : Int := c.getD (-1)
def cntN (c : Option Int) : Nat := if c.isSome then 3 else 2
def UnRPost (t u : ByteArray) (c : Option Int) (g : Nat) (w : World) (e : Ending) (w' : World) : Prop := e = .returned .nilIface ∧ VarsR w' g (.string t) (.string u) (.int .i64 (cntOf c)) ∧ Only (inG g) w w'
set_option maxRecDepth 100000 in
set_option maxHeartbeats 4000000 in
theorem unpack_r (name t u : ByteArray) (c : Option Int) (A ca P cp g : Nat) (o1 o2 : Value) (w : World)
    (hA : w.cell? ⟨A, 0, none⟩ = some (.iface 63 (.string t)) ∧ w.cell? ⟨A, 1, none⟩ = some (.iface 63 (.string u))) (hAc : ∀ n, c = some n → w.cell? ⟨A, 2, none⟩ = some (.iface 108 (.agg #[.int .i64 n, .pointer none])))
    (hP : w.cell? ⟨P, 0, none⟩ = some (.iface 91 (.pointer (some ⟨g, 0, none⟩))) ∧ w.cell? ⟨P, 1, none⟩ = some (.iface 91 (.pointer (some ⟨g + 1, 0, none⟩))) ∧ w.cell? ⟨P, 2, none⟩ = some (.iface 92 (.pointer (some ⟨g + 1 + 1, 0, none⟩))))
    (hG : VarsR w g o1 o2 (.int .i64 (-1))) (hAg : ¬ inG g A) (hPg : ¬ inG g P) :
    Calls Tryz.prog 47 #[.string name, .slice (some ⟨A, 0, none⟩) (cntN c) ca, .slice none 0 0, .int .i64 2, .slice (some ⟨P, 0, none⟩) 3 cp] w (UnRPost t u c g w) := by
  obtain ⟨a0, a1⟩ := hA
  obtain ⟨p0, p1, p2⟩ := hP
  have hAl : A < w.heap.size := World.block_lt_of_cell? w _ a0
  have hPl : P < w.heap.size := World.block_lt_of_cell? w _ p0
  have HC : Hid (∀ W, Only (inG g) w W → (W.cell? ⟨A, 0, none⟩ = some (.iface 63 (.string t)) ∧ W.cell? ⟨A, 1, none⟩ = some (.iface 63 (.string u)) ∧ (∀ n, c = some n → W.cell? ⟨A, 2, none⟩ = some (.iface 108 (.agg #[.int .i64 n, .pointer none])))) ∧
      (W.cell? ⟨P, 0, none⟩ = some (.iface 91 (.pointer (some ⟨g, 0, none⟩))) ∧ W.cell? ⟨P, 1, none⟩ = some (.iface 91 (.pointer (some ⟨g + 1, 0, none⟩))) ∧ W.cell? ⟨P, 2, none⟩ = some (.iface 92 (.pointer (some ⟨g + 1 + 1, 0, none⟩))))) := by
    intro W hW
    have eA : ∀ o, W.cell? ⟨A, o, none⟩ = w.cell? ⟨A, o, none⟩ := fun o => by simp only [World.cell?, hW.block A hAl hAg]
    have eP : ∀ o, W.cell? ⟨P, o, none⟩ = w.cell? ⟨P, o, none⟩ := fun o => by simp only [World.cell?, hW.block P hPl hPg]
    exact ⟨⟨(eA 0).trans a0, (eA 1).trans a1, fun n hn => (eA 2).trans (hAc n hn)⟩, (eP 0).trans p0, (eP 1).trans p1, (eP 2).trans p2⟩
  have HG := Lib.hid hG
  obtain ⟨N, hN⟩ : ∃ N, N = cntN c := ⟨_, rfl⟩
  have hN2 : 2 ≤ N := by rw [hN]; unfold cntN; split <;> omega
  have hN3 : N ≤ 3 := by rw [hN]; unfold cntN; split <;> omega
  have HN := Lib.hid hN
  rw [← hN]
  clear hG hAg hPg hAl hPl hAc hN
  have k0 : decide ((0 : Int) < (N : Int)) = true := by simp; omega
  have k1 : decide ((1 : Int) < (N : Int)) = true := by simp; omega
  have l0 : (0 : Int) < (N : Int) := by omega
  have l1 : (1 : Int) < (N : Int) := by omega
  go_enter Tryz.func47, Tryz.ntmps47
  go_wp2_with fail
  refine (check_args name _ N ca 2 3 _ hN2 hN3).mono ?_
  rintro e w' ⟨rfl, rfl⟩
  go_wp2_with fail
  refine wp_loop_rounds 4 ?_
  rw [rounds_succ]
  go_wp2_with fail
  refine (unpack_str t _ _ _ HG.out.a).mono ?_
  rintro e w1 ⟨rfl, hk1, ho1⟩
  have hO1 := only_in (g := g) (.inl rfl) ho1
  have HO1 := Lib.hid hO1
  have HG1 : Hid (VarsR w1 g (.string t) o2 (.int .i64 (-1))) := ⟨hk1, HG.out.b.only ho1 (by simp), HG.out.c.only ho1 (by omega)⟩
  obtain ⟨⟨b0, b1, _⟩, q0, q1, q2⟩ := HC.out w1 hO1
  clear hk1 ho1 hO1 a0 a1 p0 p1 p2
  go_wp2_with fail
  rw [rounds_succ]
  go_wp2_with fail
  refine (unpack_str u _ _ _ HG1.out.b).mono ?_
  rintro e w2 ⟨rfl, hk2, ho2⟩
  have hO2 := HO1.out.trans (only_in (g := g) (.inr (.inl rfl)) ho2)
  have HO2 := Lib.hid hO2
  have HG2 : Hid (VarsR w2 g (.string t) (.string u) (.int .i64 (-1))) := ⟨HG1.out.a.only ho2 (by omega), hk2, HG1.out.c.only ho2 (by omega)⟩
  obtain ⟨⟨a0, a1, a2⟩, p0, p1, p2⟩ := HC.out w2 hO2
  clear hk2 ho2 hO2 b0 b1 q0 q1 q2
  go_wp2_with fail
  rw [rounds_succ]
  cases c with
  | none =>
    obtain rfl : N = 2 := HN.out
    clear a2
    go_wp2
    go_ret
    exact ⟨rfl, HG2.out, HO2.out⟩
  | some n =>
    obtain rfl : N = 3 := HN.out
    have a3 := a2 n rfl
    clear a2
    go_wp2_with fail
    refine (unpack_int n _ _ _ HG2.out.c).mono ?_
    rintro e w3 ⟨rfl, hk3, ho3⟩
    have hO3 := HO2.out.trans (only_in (g := g) (.inr (.inr rfl)) ho3)
    have HO3 := Lib.hid hO3
    have HG3 : Hid (VarsR w3 g (.string t) (.string u) (.int .i64 n)) := ⟨HG2.out.a.only ho3 (by omega), HG2.out.b.only ho3 (by omega), hk3⟩
    clear hk3 ho3 hO3 a0 a1 a3 p0 p1 p2
    go_wp2_with fail
    rw [rounds_succ]
    go_wp2
    go_ret
    exact ⟨rfl, HG3.out, HO3.out⟩
end Go.Proofs.YthoemgnfklhgjaaGreatDoor
