/- Three arguments unpacked: a text, two values. -/
import Derived.Test.YthoemgnfklhgjaaGreatUnpack
namespace Go.Proofs.YthoemgnfklhgjaaGreat
open Go.RowKit
attribute [local go_sem ↓] Go.wp_at_zero Go.wp_at_succ
structure Vars (w : World) (g : Nat) (t : Value) (u v : Value) : Prop where
  a : Blk w g 9 #[t]
  b : Blk w (g + 1) 53 #[u]
  c : Blk w (g + 1 + 1) 53 #[v]
def inG (g x : Nat) : Prop := x = g ∨ x = g + 1 ∨ x = g + 1 + 1
theorem only_in {g k : Nat} (hk : inG g k) {w w' : World} (h : Only (· = k) w w') : Only (inG g) w w' := h.mono fun x _ e => by subst e; exact hk
def Un3Post (t : ByteArray) (u v : Value) (g : Nat) (w : World) (e : Ending) (w' : World) : Prop := e = .returned .nilIface ∧ Vars w' g (.string t) u v ∧ Only (inG g) w w'
set_option maxRecDepth 100000 in
set_option maxHeartbeats 4000000 in
theorem unpack3 (name t : ByteArray) (A ca P cp g : Nat) (t1 t2 : TypeId) (u1 u2 o1 o2 o3 : Value) (w : World)
    (hA : w.cell? ⟨A, 0, none⟩ = some (.iface 58 (.string t)) ∧ w.cell? ⟨A, 1, none⟩ = some (.iface t1 u1) ∧ w.cell? ⟨A, 2, none⟩ = some (.iface t2 u2))
    (hP : w.cell? ⟨P, 0, none⟩ = some (.iface 108 (.pointer (some ⟨g, 0, none⟩))) ∧ w.cell? ⟨P, 1, none⟩ = some (.iface 109 (.pointer (some ⟨g + 1, 0, none⟩))) ∧ w.cell? ⟨P, 2, none⟩ = some (.iface 109 (.pointer (some ⟨g + 1 + 1, 0, none⟩))))
    (hG : Vars w g o1 o2 o3) (hAg : ¬ inG g A) (hPg : ¬ inG g P) :
    Calls Tryz.prog 58 #[.string name, .slice (some ⟨A, 0, none⟩) 3 ca, .slice none 0 0, .int .i64 1, .slice (some ⟨P, 0, none⟩) 3 cp] w (Un3Post t (.iface t1 u1) (.iface t2 u2) g w) := by
  obtain ⟨a0, a1, a2⟩ := hA
  obtain ⟨p0, p1, p2⟩ := hP
  have hAl : A < w.heap.size := World.block_lt_of_cell? w _ a0
  have hPl : P < w.heap.size := World.block_lt_of_cell? w _ p0
  have HC : Hid (∀ W, Only (inG g) w W → (W.cell? ⟨A, 0, none⟩ = some (.iface 58 (.string t)) ∧ W.cell? ⟨A, 1, none⟩ = some (.iface t1 u1) ∧ W.cell? ⟨A, 2, none⟩ = some (.iface t2 u2)) ∧
      (W.cell? ⟨P, 0, none⟩ = some (.iface 108 (.pointer (some ⟨g, 0, none⟩))) ∧ W.cell? ⟨P, 1, none⟩ = some (.iface 109 (.pointer (some ⟨g + 1, 0, none⟩))) ∧ W.cell? ⟨P, 2, none⟩ = some (.iface 109 (.pointer (some ⟨g + 1 + 1, 0, none⟩))))) := by
    intro W hW
    have eA : ∀ o, W.cell? ⟨A, o, none⟩ = w.cell? ⟨A, o, none⟩ := fun o => by simp only [World.cell?, hW.block A hAl hAg]
    have eP : ∀ o, W.cell? ⟨P, o, none⟩ = w.cell? ⟨P, o, none⟩ := fun o => by simp only [World.cell?, hW.block P hPl hPg]
    exact ⟨⟨(eA 0).trans a0, (eA 1).trans a1, (eA 2).trans a2⟩, (eP 0).trans p0, (eP 1).trans p1, (eP 2).trans p2⟩
  have HG := Lib.hid hG
  clear hG hAg hPg hAl hPl
  go_enter Tryz.func58, Tryz.ntmps58
  go_wp2_with fail
  refine (check_args name _ 3 ca 1 3 _ (by omega) (by omega)).mono ?_
  rintro e w' ⟨rfl, rfl⟩
  go_wp2_with fail
  refine wp_loop_rounds 4 ?_
  rw [rounds_succ]
  go_wp2_with fail
  refine (unpack_str t _ _ _ HG.out.a).mono ?_
  rintro e w1 ⟨rfl, hk1, ho1⟩
  have hO1 := only_in (g := g) (.inl rfl) ho1
  have HO1 := Lib.hid hO1
  have HG1 : Hid (Vars w1 g (.string t) o2 o3) := ⟨hk1, HG.out.b.only ho1 (by simp), HG.out.c.only ho1 (by omega)⟩
  obtain ⟨⟨b0, b1, b2⟩, q0, q1, q2⟩ := HC.out w1 hO1
  clear hk1 ho1 hO1 a0 a1 a2 p0 p1 p2
  go_wp2_with fail
  rw [rounds_succ]
  go_wp2_with fail
  refine (unpack_val t1 u1 _ _ _ HG1.out.b).mono ?_
  rintro e w2 ⟨rfl, hk2, ho2⟩
  have hO2 := HO1.out.trans (only_in (g := g) (.inr (.inl rfl)) ho2)
  have HO2 := Lib.hid hO2
  have HG2 : Hid (Vars w2 g (.string t) (.iface t1 u1) o3) := ⟨HG1.out.a.only ho2 (by omega), hk2, HG1.out.c.only ho2 (by omega)⟩
  obtain ⟨⟨a0, a1, a2⟩, p0, p1, p2⟩ := HC.out w2 hO2
  clear hk2 ho2 hO2 b0 b1 b2 q0 q1 q2
  go_wp2_with fail
  rw [rounds_succ]
  go_wp2_with fail
  refine (unpack_val t2 u2 _ _ _ HG2.out.c).mono ?_
  rintro e w3 ⟨rfl, hk3, ho3⟩
  have hO3 := HO2.out.trans (only_in (g := g) (.inr (.inr rfl)) ho3)
  have HO3 := Lib.hid hO3
  have HG3 : Hid (Vars w3 g (.string t) (.iface t1 u1) (.iface t2 u2)) := ⟨HG2.out.a.only ho3 (by omega), HG2.out.b.only ho3 (by omega), hk3⟩
  clear hk3 ho3 hO3 a0 a1 a2 p0 p1 p2
  go_wp2_with fail
  rw [rounds_succ]
  go_wp2
  go_ret
  exact ⟨rfl, HG3.out, HO3.out⟩
end Go.Proofs.YthoemgnfklhgjaaGreat
