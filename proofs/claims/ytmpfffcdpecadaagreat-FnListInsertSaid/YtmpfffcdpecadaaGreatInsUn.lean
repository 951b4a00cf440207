/- A builtin over a list: made, bound, read; its two arguments, a place and a value, unpacked. -/
import Derived.Test.YtmpfffcdpecadaaGreatAsIntX
import Derived.RegionTactic
import Derived.ChangeAlike
namespace Go.Proofs.YtmpfffcdpecadaaGreat
open Go.RowKit
attribute [local go_sem ↓] Go.wp_at_zero Go.wp_at_succ
/-- The block of a builtin: its name, its function, its receiver. -/
def BuiltinAt (w : World) (b : Nat) (name : ByteArray) (fn recv : Value) : Prop := Blk w b 143 #[.string name, fn, recv]
theorem name_of (b : Nat) (name : ByteArray) (fn recv : Value) (w : World) (hB : BuiltinAt w b name fn recv) : Calls Tryz.prog 55 #[.pointer (some ⟨b, 0, none⟩)] w fun e w' => e = .returned (.string name) ∧ w = w' := by
  have c0 := hB.cell 0
  simp only [List.getElem?_toArray, List.getElem?_cons_zero, List.getElem?_cons_succ] at c0
  clear hB
  go_enter Tryz.func55, Tryz.ntmps55
  go_wp2
  go_ret
  exact ⟨rfl, rfl⟩
theorem recv_of (b : Nat) (name : ByteArray) (fn recv : Value) (w : World) (hB : BuiltinAt w b name fn recv) : Calls Tryz.prog 53 #[.pointer (some ⟨b, 0, none⟩)] w fun e w' => e = .returned recv ∧ w = w' := by
  have c2 := hB.cell 2
  simp only [List.getElem?_toArray, List.getElem?_cons_zero, List.getElem?_cons_succ] at c2
  clear hB
  go_enter Tryz.func53, Tryz.ntmps53
  go_wp2
  go_ret
  exact ⟨rfl, rfl⟩
@[go_sem] theorem Tryz.assertList (v : Value) (w : World) : (Instr.typeAssert (.iface 42 v) 49 42 false).run Tryz.prog w = .ok v w := by kernel_rfl
def MadeAt (name : ByteArray) (fn recv : Value) (w : World) (e : Ending) (w' : World) : Prop := ∃ b, e = .returned (.pointer (some ⟨b, 0, none⟩)) ∧ BuiltinAt w' b name fn recv ∧ Below w.heap.size w w'
theorem new_builtin (name : ByteArray) (f : Nat) (w : World) :
    Calls Tryz.prog 51 #[.string name, .func (.func f) #[] #[]] w (MadeAt name (.func (.func f) #[] #[]) .nilIface w) := by
  go_enter Tryz.func51, Tryz.ntmps51
  go_wp2
  go_ret
  exact ⟨_, rfl, Blk.new _ _ _, (Below.refl _ w).alloc (Nat.le_refl _) _⟩
set_option maxHeartbeats 1600000 in
theorem bind_list (name : ByteArray) (f : Nat) (b : Nat) (L : Nat) (w : World) (hB : BuiltinAt w b name (.func (.func f) #[] #[]) .nilIface) :
    Calls Tryz.prog 52 #[.pointer (some ⟨b, 0, none⟩), .iface 42 (.pointer (some ⟨L, 0, none⟩))] w (MadeAt name (.func (.func f) #[] #[]) (.iface 42 (.pointer (some ⟨L, 0, none⟩))) w) := by
  have c0 := hB.cell 0
  have c1 := hB.cell 1
  simp only [List.getElem?_toArray, List.getElem?_cons_zero, List.getElem?_cons_succ] at c0 c1
  have hlt := hB.lt
  clear hB
  go_enter Tryz.func52, Tryz.ntmps52
  go_wp2_with fail
  go_region
  all_goals
    go_wp2
    go_ret
    exact ⟨_, rfl, (Blk.new w 143 _).drew, ((Below.refl _ w).alloc (Nat.le_refl _) _).drew⟩
set_option maxRecDepth 100000 in
theorem check_args (name : ByteArray) (a : Option Addr) (n c lo hi : Nat) (w : World) (h1 : lo ≤ n) (h2 : n ≤ hi) :
    Calls Tryz.prog 72 #[.string name, .slice a n c, .slice none 0 0, .int .i64 (lo : Int), .int .i64 (hi : Int)] w fun e w' => e = .returned .nilIface ∧ w = w' := by
  have d1 : decide ((n : Int) < (lo : Int)) = false := by simp; omega
  have d2 : decide ((hi : Int) < (n : Int)) = false := by simp; omega
  have d3 : decide (n < lo) = false := by simp; omega
  have d4 : decide (hi < n) = false := by simp; omega
  clear h1 h2
  go_enter Tryz.func72, Tryz.ntmps72
  go_wp2
  go_ret
  exact ⟨rfl, rfl⟩
def UnTwo (g x : Nat) (k : Int) (u : Value) (w : World) (e : Ending) (w' : World) : Prop := e = .returned .nilIface ∧ Blk w' g 3 #[.int .i64 k] ∧ Blk w' x 49 #[u] ∧ Only (fun q => q = g ∨ q = x) w w'
set_option maxRecDepth 100000 in
set_option maxHeartbeats 4000000 in
theorem unpack_two_no (name : ByteArray) (u0 : Value) (s0 : Sx) (A ca Q cp g : Nat) (w : World) (h0 : TVal w u0 s0) (hn : idxX s0 = none)
    (hA : w.cell? ⟨A, 0, none⟩ = some u0) (hP : w.cell? ⟨Q, 0, none⟩ = some (.iface 111 (.pointer (some ⟨g, 0, none⟩)))) :
    Calls Tryz.prog 54 #[.string name, .slice (some ⟨A, 0, none⟩) 2 ca, .slice none 0 0, .int .i64 2, .slice (some ⟨Q, 0, none⟩) 2 cp] w (AsBNo w) := by
  have HU := Lib.hid (unp_idx_no u0 s0 g w h0 hn)
  obtain ⟨tu, zu, rfl⟩ := h0.iface
  clear h0 hn
  go_enter Tryz.func54, Tryz.ntmps54
  go_wp2_with fail
  refine (check_args name _ 2 ca 2 2 _ (by omega) (by omega)).mono ?_
  rintro e w' ⟨rfl, rfl⟩
  go_wp2_with fail
  refine wp_loop_rounds 1 ?_
  rw [rounds_succ]
  go_wp2_with fail
  refine HU.out.mono ?_
  rintro e w1 ⟨v, rfl, ⟨eb, rfl⟩, hb⟩
  have HB := Lib.hid hb
  clear hb
  go_wp2_with fail
  refine (err_new _ _).mono ?_
  rintro e w2 ⟨v, rfl, ⟨eb2, rfl⟩, hb2⟩
  have HB2 := Lib.hid (HB.out.trans (hb2.mono HB.out.size))
  clear hb2
  go_wp2
  go_ret
  exact ⟨_, rfl, ⟨_, rfl⟩, HB2.out⟩
set_option maxRecDepth 100000 in
set_option maxHeartbeats 4000000 in
theorem unpack_two (name : ByteArray) (u0 u1 o0 o1 : Value) (s0 : Sx) (k : Int) (A ca Q cp g x : Nat) (w : World) (h0 : TVal w u0 s0) (hn : idxX s0 = some k) (h1 : ∃ t y, u1 = .iface t y)
    (hA : w.cell? ⟨A, 0, none⟩ = some u0) (hA1 : w.cell? ⟨A, 1, none⟩ = some u1) (hP : w.cell? ⟨Q, 0, none⟩ = some (.iface 111 (.pointer (some ⟨g, 0, none⟩)))) (hP1 : w.cell? ⟨Q, 1, none⟩ = some (.iface 112 (.pointer (some ⟨x, 0, none⟩))))
    (hg : Blk w g 3 #[o0]) (hx : Blk w x 49 #[o1]) (hgA : g ≠ A) (hgQ : g ≠ Q) (hgx : g ≠ x) :
    Calls Tryz.prog 54 #[.string name, .slice (some ⟨A, 0, none⟩) 2 ca, .slice none 0 0, .int .i64 2, .slice (some ⟨Q, 0, none⟩) 2 cp] w (UnTwo g x k u1 w) := by
  have HU := Lib.hid (unp_idx_yes u0 o0 s0 k g w h0 hn hg)
  have hAl := World.block_lt_of_cell? w _ hA
  have hQl := World.block_lt_of_cell? w _ hP
  have HX := Lib.hid hx
  have HA1 := Lib.hid hA1
  have HP1 := Lib.hid hP1
  obtain ⟨tu, zu, rfl⟩ := h0.iface
  obtain ⟨tv, zv, rfl⟩ := h1
  clear h0 hn hg hx hA1 hP1
  go_enter Tryz.func54, Tryz.ntmps54
  go_wp2_with fail
  refine (check_args name _ 2 ca 2 2 _ (by omega) (by omega)).mono ?_
  rintro e w' ⟨rfl, rfl⟩
  go_wp2_with fail
  refine wp_loop_rounds 3 ?_
  rw [rounds_succ]
  go_wp2_with fail
  refine HU.out.mono ?_
  rintro e w1 ⟨rfl, hk1, ho1⟩
  have HK1 := Lib.hid hk1
  have HO1 := Lib.hid ho1
  have HX1 := Lib.hid (HX.out.only ho1 (fun e => hgx e.symm))
  have a1 : w1.cell? ⟨A, 1, none⟩ = some (.iface tv zv) := by
    have e : w1.cell? ⟨A, 1, none⟩ = w.cell? ⟨A, 1, none⟩ := by simp only [World.cell?, ho1.block A hAl (fun e => hgA e.symm)]
    exact e.trans HA1.out
  have q1 : w1.cell? ⟨Q, 1, none⟩ = some (.iface 112 (.pointer (some ⟨x, 0, none⟩))) := by
    have e : w1.cell? ⟨Q, 1, none⟩ = w.cell? ⟨Q, 1, none⟩ := by simp only [World.cell?, ho1.block Q hQl (fun e => hgQ e.symm)]
    exact e.trans HP1.out
  clear hk1 ho1 hA hP
  go_wp2_with fail
  rw [rounds_succ]
  go_wp2_with fail
  refine (unp_val (.iface tv zv) o1 x _ ⟨_, _, rfl⟩ HX1.out).mono ?_
  rintro e w2 ⟨rfl, hk2, ho2⟩
  have HK2 := Lib.hid hk2
  have HO2 := Lib.hid ho2
  clear hk2 ho2
  go_wp2_with fail
  rw [rounds_succ]
  go_wp2
  go_ret
  exact ⟨rfl, HK1.out.only HO2.out (fun e => hgx e), HK2.out, (HO1.out.mono (fun q _ e => .inl e)).trans (HO2.out.mono (fun q _ e => .inr e))⟩
end Go.Proofs.YtmpfffcdpecadaaGreat
