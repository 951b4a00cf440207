/- Going through a tuple: its iterator. -/
import Derived.Test.YteibkaonofkcbaaGreatTupS
import Derived.Test.YteibkaonofkcbaaGreatTupJoinK
namespace Go.Proofs.YteibkaonofkcbaaGreat
open Go.RowKit
set_option linter.unusedSimpArgs false
set_option linter.unusedVariables false
attribute [local go_sem ↓] Go.wp_at_zero Go.wp_at_succ
theorem tup_done (it : Nat) (w : World) : Calls Tryz.prog 152 #[.pointer (some ⟨it, 0, none⟩)] w fun e w' => e = .returned (.tuple #[]) ∧ w = w' := by
  go_enter Tryz.func152, Tryz.ntmps152
  go_wp2
  go_end0
  exact ⟨rfl, rfl⟩
set_option maxRecDepth 20000 in
theorem tup_next_no (it x : Nat) (a : Option Addr) (c : Nat) (w : World) (hI : Blk w it 126 #[.slice a 0 c]) :
    Calls Tryz.prog 153 #[.pointer (some ⟨it, 0, none⟩), .pointer (some ⟨x, 0, none⟩)] w fun e w' => e = .returned (.bool false) ∧ w = w' := by
  have c0 := (hI.cell 0).trans rfl
  clear hI
  go_enter Tryz.func153, Tryz.ntmps153
  go_wp2
  go_ret
  exact ⟨rfl, rfl⟩
/-- A tuple's rest behind its first element. -/
theorem SegT.rest {w : World} {a : Option Addr} {n c : Nat} {ps : List (Value × Sx)} (h : SegT w a (n + 1) c ps) :
    ∃ q d, SegT w q n d (ps.drop 1) ∧ (∀ p', q = some p' → ∃ p, a = some p ∧ p'.block = p.block) ∧ ∀ W : World, (Instr.slice 59 (.slice a (n + 1) c) (some (.int .i64 1)) none none).run Tryz.prog W = .ok (.slice q n d) W := by
  have hs : ∀ w, (sizeOf 87).run Tryz.prog w = .ok 1 w := fun w => by kernel_rfl
  obtain ⟨h1, h2, h3, h4, h5, h6⟩ := h
  have hmem : ∀ p ∈ ps.drop 1, TVal w p.1 p.2 := fun p hp => h6 p (List.mem_of_mem_drop hp)
  have hget : ∀ k u, ((ps.drop 1).map (·.1))[k]? = some u → (ps.map (·.1))[1 + k]? = some u := fun k u hk => by
    rw [List.getElem?_map, List.getElem?_drop] at hk
    rw [List.getElem?_map]
    exact hk
  cases a with
  | none => have := h4 rfl; omega
  | some x =>
    have e4 : 1 ≤ c := by omega
    by_cases hc : c = 1
    · subst hc
      obtain rfl : n = 0 := by omega
      refine ⟨some x, 0, ⟨by rw [List.length_drop]; omega, by omega, Nat.zero_le _, fun h => rfl, fun p hp k u hk => ?_, hmem⟩, fun p' h => ⟨x, rfl, by injection h with h; rw [h]⟩, fun W => ?_⟩
      · have := (List.getElem?_eq_some_iff.1 hk).1
        rw [List.length_map, List.length_drop] at this
        omega
      · simp [Instr.slice, run_underlying Tryz.underlying59, Instr.sliceBounds, Instr.sliceBound, asIntOf, hs]
    · refine ⟨some (x.add 1), c - 1, ⟨by rw [List.length_drop]; omega, by omega, by omega, fun h => by simp at h, fun p hp k u hk => ?_, hmem⟩, fun p' h => ⟨x, rfl, by injection h with h; rw [← h, block_add]⟩, fun W => ?_⟩
      · injection hp with hp
        subst hp
        rw [Addr.add_add]
        exact h5 x rfl (1 + k) u (hget k u hk)
      · have hc' : ¬ 1 = c := fun e => hc e.symm
        simp [Instr.slice, run_underlying Tryz.underlying59, Instr.sliceBounds, Instr.sliceBound, asIntOf, hs, e4, hc, hc']
        exact fun h => absurd h (by omega)
set_option maxRecDepth 20000 in
set_option maxHeartbeats 1000000 in
theorem tup_next_yes (it x n c : Nat) (a : Option Addr) (ps : List (Value × Sx)) (old : Value) (w : World) (hI : Blk w it 126 #[.slice a (n + 1) c]) (hS : SegT w a (n + 1) c ps) (hn : n ≤ 1000) (hX : Blk w x 87 #[old]) (h1 : it ≠ x) :
    Calls Tryz.prog 153 #[.pointer (some ⟨it, 0, none⟩), .pointer (some ⟨x, 0, none⟩)] w fun e w' => ∃ q d u, e = .returned (.bool true) ∧ Blk w' it 126 #[.slice q n d] ∧ Blk w' x 87 #[u.1] ∧ ps[0]? = some u ∧ SegT w q n d (ps.drop 1) ∧ (∀ p', q = some p' → ∃ p, a = some p ∧ p'.block = p.block) ∧ Only (fun b => b = it ∨ b = x) w w' := by
  have hl : 0 < ps.length := by have := hS.1; omega
  obtain ⟨p, t, y, rfl, he, hc⟩ := hS.at 0 hl
  have hp0 : p.add 0 = p := by simp [Addr.add]
  rw [hp0] at hc
  obtain ⟨q, d, hq, hqb, hrun⟩ := hS.rest
  have HQB := Lib.hid hqb
  have HQ := Lib.hid hq
  have HI := Lib.hid hI
  have HX := Lib.hid hX
  have HU : Hid (ps[0]? = some ps[0]) := List.getElem?_eq_getElem hl
  have HE := Lib.hid he
  obtain ⟨m, hm⟩ : ∃ m, m = n + 1 := ⟨_, rfl⟩
  rw [← hm] at hrun hI
  have c0 := (hI.cell 0).trans rfl
  have f0 := hI.frozen 0
  have x0 := (hX.cell 0).trans rfl
  have xf := hX.frozen 0
  have d1 : decide (0 < (m : Int)) = true := by simp; omega
  have d2 : decide (0 < m) = true := by simp; omega
  have hm0 : 0 < m := by omega
  have hm1 : (0 : Int) < (m : Int) := by omega
  have h2 : ¬ it = x := h1
  have h3 : ¬ x = it := fun e => h1 e.symm
  have HR : Hid (∃ u, ps[0]? = some u ∧ u.1 = .iface t y) := ⟨ps[0], List.getElem?_eq_getElem hl, he⟩
  clear HE HU hm hS hI hX hq hqb he hl h1
  go_enter Tryz.func153, Tryz.ntmps153
  go_wp2
  go_ret
  obtain ⟨u, hu, hu1⟩ := HR.out
  refine ⟨q, d, u, rfl, ?_, ?_, hu, HQ.out, HQB.out, ?_⟩
  · exact Blk.put (HI.out.far (p := ⟨x, 0, none⟩) h2 _) 0 _
  · rw [hu1]
    exact (Blk.put HX.out 0 (.iface t y)).far (p := ⟨it, 0, none⟩) h3 _
  · exact ((Only.refl (fun b => b = it ∨ b = x) w).setCell (p := ⟨x, 0, none⟩) (.inl (.inr rfl)) _).setCell (p := ⟨it, 0, none⟩) (.inl (.inl rfl)) _
end Go.Proofs.YteibkaonofkcbaaGreat
