/- The arguments of a split: a value, and perhaps a count. -/
import Derived.Test.YteibkaonofkcbaaGreatDoorIntGet
import Derived.Test.YteibkaonofkcbaaGreatDoorOwn2
import Derived.Deep.LoopGhost
import Derived.Deep.DrawnRows
import Derived.RegionTactic
import Derived.ChangeAlike
namespace Go.Proofs.YteibkaonofkcbaaGreatDoor
open Go.RowKit
attribute [local go_sem ↓] Go.wp_at_zero Go.wp_at_succ
@[go_sem] theorem Tryz.isIntP (v : Value) (w : World) : (Instr.typeAssert (.iface 107 v) 49 107 true).run Tryz.prog w = .ok (.tuple #[v, .bool true]) w := by kernel_rfl
theorem blk_one {w : World} {g : Nat} {t : TypeId} {a : Value} (h : Blk w g t #[a]) : w.cell? ⟨g, 0, none⟩ = some a ∧ w.frozen? ⟨g, 0, none⟩ = false := ⟨(h.cell 0).trans rfl, h.frozen 0⟩
theorem one_put {w : World} {g : Nat} {t : TypeId} {a : Value} (h : Blk w g t #[a]) (u : Value) : Blk (w.setCell ⟨g, 0, none⟩ u) g t #[u] := by
  have := h.put 0 u
  simpa using this
theorem one_only (w : World) (g : Nat) (u : Value) : Only (· = g) w (w.setCell ⟨g, 0, none⟩ u) := (Only.refl (fun x => x = g) w).setCell (p := ⟨g, 0, none⟩) (.inl (rfl : g = g)) u
@[go_sem] theorem Tryz.toVal1 (v : Value) (w : World) : (Instr.typeAssert (.iface 80 v) 20 80 true).run Tryz.prog w = .ok (.tuple #[v, .bool true]) w := by kernel_rfl
set_option maxRecDepth 100000 in
set_option maxHeartbeats 4000000 in
theorem unpack_val (ty : TypeId) (u old : Value) (g : Nat) (w : World) (hK : Blk w g 49 #[old]) :
    Calls Tryz.prog 44 #[.iface ty u, .iface 80 (.pointer (some ⟨g, 0, none⟩))] w fun e w' => e = .returned .nilIface ∧ Blk w' g 49 #[.iface ty u] ∧ Only (· = g) w w' := by
  have HK := Lib.hid hK
  obtain ⟨c0, f0⟩ := blk_one hK
  clear hK
  go_enter Tryz.func44, Tryz.ntmps44
  go_wp2
  go_ret
  exact ⟨rfl, one_put HK.out _, one_only w g _⟩
set_option maxRecDepth 100000 in
theorem check_args (name : ByteArray) (a : Option Addr) (n c lo hi : Nat) (w : World) (h1 : lo ≤ n) (h2 : n ≤ hi) :
    Calls Tryz.prog 43 #[.string name, .slice a n c, .slice none 0 0, .int .i64 (lo : Int), .int .i64 (hi : Int)] w fun e w' => e = .returned .nilIface ∧ w = w' := by
  have d1 : decide ((n : Int) < (lo : Int)) = false := by simp; omega
  have d2 : decide ((hi : Int) < (n : Int)) = false := by simp; omega
  have d3 : decide (n < lo) = false := by simp; omega
  have d4 : decide (hi < n) = false := by simp; omega
  clear h1 h2
  go_enter Tryz.func43, Tryz.ntmps43
  go_wp2
  go_ret
  exact ⟨rfl, rfl⟩
set_option maxRecDepth 20000 in
theorem sint64_small (n : Int) (w : World) :
    Calls Tryz.prog 67 #[.agg #[.int .i64 n, .pointer none]] w fun e w' => e = .returned (.tuple #[.int .i64 n, .bool true]) ∧ Below w.heap.size w w' := by
  go_enter Tryz.func67, Tryz.ntmps67
  go_wp2_with fail
  refine (int_get n none _).mono ?_
  rintro e w1 ⟨rfl, hb⟩
  have hb2 := ((Below.refl w.heap.size w).alloc (Nat.le_refl _) (.cells #[.int .i64 n, .pointer none] 107)).trans (hb.mono (by simp))
  clear hb
  go_wp2
  go_ret2
  exact ⟨rfl, hb2⟩
@[go_sem] theorem Tryz.toI92 (v : Value) (w : World) : (Instr.typeAssert (.iface 81 v) 20 81 true).run Tryz.prog w = .ok (.tuple #[v, .bool true]) w := by kernel_rfl
@[go_sem] theorem Tryz.toIv (v : Value) (w : World) : (Instr.typeAssert (.iface 81 v) 20 80 true).run Tryz.prog w = .ok (.tuple #[.pointer none, .bool false]) w := by kernel_rfl
@[go_sem] theorem Tryz.toIs (v : Value) (w : World) : (Instr.typeAssert (.iface 81 v) 20 135 true).run Tryz.prog w = .ok (.tuple #[.pointer none, .bool false]) w := by kernel_rfl
@[go_sem] theorem Tryz.toIb (v : Value) (w : World) : (Instr.typeAssert (.iface 81 v) 20 136 true).run Tryz.prog w = .ok (.tuple #[.pointer none, .bool false]) w := by kernel_rfl
@[go_sem] theorem Tryz.toI0 (v : Value) (w : World) : (Instr.typeAssert (.iface 81 v) 20 138 true).run Tryz.prog w = .ok (.tuple #[.pointer none, .bool false]) w := by kernel_rfl
@[go_sem] theorem Tryz.toI1 (v : Value) (w : World) : (Instr.typeAssert (.iface 81 v) 20 139 true).run Tryz.prog w = .ok (.tuple #[.pointer none, .bool false]) w := by kernel_rfl
@[go_sem] theorem Tryz.toI2 (v : Value) (w : World) : (Instr.typeAssert (.iface 81 v) 20 140 true).run Tryz.prog w = .ok (.tuple #[.pointer none, .bool false]) w := by kernel_rfl
@[go_sem] theorem Tryz.toI3 (v : Value) (w : World) : (Instr.typeAssert (.iface 81 v) 20 141 true).run Tryz.prog w = .ok (.tuple #[.pointer none, .bool false]) w := by kernel_rfl
@[go_sem] theorem Tryz.toI4 (v : Value) (w : World) : (Instr.typeAssert (.iface 81 v) 20 142 true).run Tryz.prog w = .ok (.tuple #[.pointer none, .bool false]) w := by kernel_rfl
@[go_sem] theorem Tryz.toI5 (v : Value) (w : World) : (Instr.typeAssert (.iface 81 v) 20 126 true).run Tryz.prog w = .ok (.tuple #[.pointer none, .bool false]) w := by kernel_rfl
@[go_sem] theorem Tryz.toI6 (v : Value) (w : World) : (Instr.typeAssert (.iface 81 v) 20 143 true).run Tryz.prog w = .ok (.tuple #[.pointer none, .bool false]) w := by kernel_rfl
@[go_sem] theorem Tryz.toI7 (v : Value) (w : World) : (Instr.typeAssert (.iface 81 v) 20 144 true).run Tryz.prog w = .ok (.tuple #[.pointer none, .bool false]) w := by kernel_rfl
@[go_sem] theorem Tryz.toI8 (v : Value) (w : World) : (Instr.typeAssert (.iface 81 v) 20 145 true).run Tryz.prog w = .ok (.tuple #[.pointer none, .bool false]) w := by kernel_rfl
@[go_sem] theorem Tryz.toI9 (v : Value) (w : World) : (Instr.typeAssert (.iface 81 v) 20 146 true).run Tryz.prog w = .ok (.tuple #[.pointer none, .bool false]) w := by kernel_rfl
set_option maxRecDepth 100000 in
set_option maxHeartbeats 4000000 in
theorem as_int (n : Int) (old : Value) (g : Nat) (w : World) (hK : Blk w g 3 #[old]) :
    Calls Tryz.prog 55 #[.iface 107 (.agg #[.int .i64 n, .pointer none]), .iface 81 (.pointer (some ⟨g, 0, none⟩))] w fun e w' => e = .returned .nilIface ∧ Blk w' g 3 #[.int .i64 n] ∧ Only (· = g) w w' := by
  have HO0 := Lib.hid ((Only.refl (· = g) w).alloc (.cells #[.int .i64 n, .pointer none] 107))
  have HK := Lib.hid (hK.alloc (.cells #[.int .i64 n, .pointer none] 107))
  clear hK
  go_enter Tryz.func55, Tryz.ntmps55
  go_wp2_with fail
  refine (sint64_small n _).mono ?_
  rintro e w1 ⟨rfl, hb⟩
  have HO1 := Lib.hid (HO0.out.below hb)
  have HK1 := Lib.hid (HK.out.below hb HK.out.lt)
  obtain ⟨c0, f0⟩ := blk_one HK1.out
  clear hb
  go_wp2
  go_ret
  exact ⟨rfl, one_put HK1.out _, HO1.out.trans (one_only w1 g _)⟩
set_option maxRecDepth 100000 in
set_option maxHeartbeats 4000000 in
theorem unpack_int (n : Int) (old : Value) (g : Nat) (w : World) (hK : Blk w g 3 #[old]) :
    Calls Tryz.prog 44 #[.iface 107 (.agg #[.int .i64 n, .pointer none]), .iface 81 (.pointer (some ⟨g, 0, none⟩))] w fun e w' => e = .returned .nilIface ∧ Blk w' g 3 #[.int .i64 n] ∧ Only (· = g) w w' := by
  have HK := Lib.hid hK
  clear hK
  go_enter Tryz.func44, Tryz.ntmps44
  go_wp2_with fail
  refine (as_int n old g _ HK.out).mono ?_
  rintro e w' ⟨rfl, hk, ho⟩
  have HK1 := Lib.hid hk
  have HO1 := Lib.hid ho
  clear hk ho
  go_wp2
  go_ret
  exact ⟨rfl, HK1.out, HO1.out⟩
structure VarsP (w : World) (g : Nat) (t v : Value) : Prop where
  a : Blk w g 49 #[t]
  b : Blk w (g + 1) 3 #[v]
def inP (g x : Nat) : Prop := x = g ∨ x = g + 1
theorem only_inP {g k : Nat} (hk : inP g k) {w w' : World} (h : Only (· = k) w w') : Only (inP g) w w' := h.mono fun x _ e => by subst e; exact hk
def cntP (c : Option Int) : Int := c.getD (-1)
def cntPN (c : Option Int) : Nat := if c.isSome then 2 else 1
def UnPPost (t : ByteArray) (c : Option Int) (g : Nat) (w : World) (e : Ending) (w' : World) : Prop := e = .returned .nilIface ∧ VarsP w' g (.iface 60 (.string t)) (.int .i64 (cntP c)) ∧ Only (inP g) w w'
set_option maxRecDepth 100000 in
set_option maxHeartbeats 4000000 in
theorem unpack_p (name t : ByteArray) (c : Option Int) (A ca P cp g : Nat) (o1 : Value) (w : World)
    (a0 : w.cell? ⟨A, 0, none⟩ = some (.iface 60 (.string t))) (hAc : ∀ n, c = some n → w.cell? ⟨A, 1, none⟩ = some (.iface 107 (.agg #[.int .i64 n, .pointer none])))
    (hP : w.cell? ⟨P, 0, none⟩ = some (.iface 80 (.pointer (some ⟨g, 0, none⟩))) ∧ w.cell? ⟨P, 1, none⟩ = some (.iface 81 (.pointer (some ⟨g + 1, 0, none⟩))))
    (hG : VarsP w g o1 (.int .i64 (-1))) (hAg : ¬ inP g A) (hPg : ¬ inP g P) :
    Calls Tryz.prog 28 #[.string name, .slice (some ⟨A, 0, none⟩) (cntPN c) ca, .slice none 0 0, .int .i64 0, .slice (some ⟨P, 0, none⟩) 2 cp] w (UnPPost t c g w) := by
  obtain ⟨p0, p1⟩ := hP
  have hAl : A < w.heap.size := World.block_lt_of_cell? w _ a0
  have hPl : P < w.heap.size := World.block_lt_of_cell? w _ p0
  have HC : Hid (∀ W, Only (inP g) w W → (W.cell? ⟨A, 0, none⟩ = some (.iface 60 (.string t)) ∧ (∀ n, c = some n → W.cell? ⟨A, 1, none⟩ = some (.iface 107 (.agg #[.int .i64 n, .pointer none])))) ∧
      (W.cell? ⟨P, 0, none⟩ = some (.iface 80 (.pointer (some ⟨g, 0, none⟩))) ∧ W.cell? ⟨P, 1, none⟩ = some (.iface 81 (.pointer (some ⟨g + 1, 0, none⟩))))) := by
    intro W hW
    have eA : ∀ o, W.cell? ⟨A, o, none⟩ = w.cell? ⟨A, o, none⟩ := fun o => by simp only [World.cell?, hW.block A hAl hAg]
    have eP : ∀ o, W.cell? ⟨P, o, none⟩ = w.cell? ⟨P, o, none⟩ := fun o => by simp only [World.cell?, hW.block P hPl hPg]
    exact ⟨⟨(eA 0).trans a0, fun n hn => (eA 1).trans (hAc n hn)⟩, (eP 0).trans p0, (eP 1).trans p1⟩
  have HG := Lib.hid hG
  obtain ⟨N, hN⟩ : ∃ N, N = cntPN c := ⟨_, rfl⟩
  have hN2 : 1 ≤ N := by rw [hN]; unfold cntPN; split <;> omega
  have hN3 : N ≤ 2 := by rw [hN]; unfold cntPN; split <;> omega
  have HN := Lib.hid hN
  rw [← hN]
  clear hG hAg hPg hAl hPl hAc hN
  have k0 : decide ((0 : Int) < (N : Int)) = true := by simp; omega
  have l0 : (0 : Int) < (N : Int) := by omega
  go_enter Tryz.func28, Tryz.ntmps28
  go_wp2_with fail
  refine (check_args name _ N ca 0 2 _ (Nat.zero_le _) hN3).mono ?_
  rintro e w' ⟨rfl, rfl⟩
  go_wp2_with fail
  refine wp_loop_rounds 3 ?_
  rw [rounds_succ]
  go_wp2_with fail
  refine (unpack_val _ _ _ _ _ HG.out.a).mono ?_
  rintro e w1 ⟨rfl, hk1, ho1⟩
  have hO1 := only_inP (g := g) (.inl rfl) ho1
  have HO1 := Lib.hid hO1
  have HG1 : Hid (VarsP w1 g (.iface 60 (.string t)) (.int .i64 (-1))) := ⟨hk1, HG.out.b.only ho1 (by simp)⟩
  obtain ⟨⟨b0, b1⟩, q0, q1⟩ := HC.out w1 hO1
  clear hk1 ho1 hO1 a0 p0 p1
  go_wp2_with fail
  rw [rounds_succ]
  cases c with
  | none =>
    obtain rfl : N = 1 := HN.out
    clear b1
    go_wp2
    go_ret
    exact ⟨rfl, HG1.out, HO1.out⟩
  | some n =>
    obtain rfl : N = 2 := HN.out
    have b2 := b1 n rfl
    clear b1
    go_wp2_with fail
    refine (unpack_int n _ _ _ HG1.out.b).mono ?_
    rintro e w3 ⟨rfl, hk3, ho3⟩
    have hO3 := HO1.out.trans (only_inP (g := g) (.inr rfl) ho3)
    have HO3 := Lib.hid hO3
    have HG3 : Hid (VarsP w3 g (.iface 60 (.string t)) (.int .i64 n)) := ⟨HG1.out.a.only ho3 (by omega), hk3⟩
    clear hk3 ho3 hO3 b0 b2 q0 q1
    go_wp2_with fail
    rw [rounds_succ]
    go_wp2
    go_ret
    exact ⟨rfl, HG3.out, HO3.out⟩
end Go.Proofs.YteibkaonofkcbaaGreatDoor
