/- math/big's stack: what is taken is told, and given back at the end. -/
import Derived.Test.YtndeolcamgnmdaaGreatDoorStkNat
import Derived.Defers
set_option linter.unusedVariables false
set_option linter.unusedSimpArgs false
set_option linter.unnecessarySimpa false
namespace Go.Proofs.YtndeolcamgnmdaaGreatDoor
open Go.RowKit
theorem inner_save (si : Nat) (a : Option Addr) (l c : Nat) (w : World) (hb : Blk w si 115 #[.slice a l c]) :
    Calls Tryz.prog 85 #[.pointer (some ⟨si, 0, none⟩)] w fun e w' => e = .returned (.int .i64 (l : Int)) ∧ w = w' := by
  have c0 := hb.cell 0
  clear hb
  go_enter Tryz.func85, Tryz.ntmps85
  go_wp2
  go_ret
  exact ⟨rfl, rfl⟩
theorem inner_restore (si gr l0 l c : Nat) (w : World) (hb : Blk w si 115 #[.slice (some ⟨gr, 0, none⟩) l c]) (h : l0 ≤ c) :
    Calls Tryz.prog 84 #[.pointer (some ⟨si, 0, none⟩), .int .i64 (l0 : Int)] w fun e w' => e = .returned (.tuple #[]) ∧ w' = w.setCell ⟨si, 0, none⟩ (.slice (some ⟨gr, 0, none⟩) l0 c) := by
  have c0 := hb.cell 0
  have f0 := hb.frozen 0
  have hsl := fun W => ws_upto W gr l c l0 h
  clear hb
  go_enter Tryz.func84, Tryz.ntmps84
  go_wp2
  go_end0
  exact ⟨rfl, rfl⟩
theorem inner_free (si gr l c : Nat) (w : World) (hb : Blk w si 115 #[.slice (some ⟨gr, 0, none⟩) l c]) :
    Calls Tryz.prog 66 #[.pointer (some ⟨si, 0, none⟩)] w fun e w' => e = .returned (.tuple #[]) ∧ w' = w.setCell ⟨si, 0, none⟩ (.slice (some ⟨gr, 0, none⟩) 0 c) := by
  have c0 := hb.cell 0
  have f0 := hb.frozen 0
  have hsl := fun W => ws_upto W gr l c 0 (by omega)
  rw [show ((0 : Nat) : Int) = 0 from rfl] at hsl
  clear hb
  go_enter Tryz.func66, Tryz.ntmps66
  go_wp2
  go_end0
  exact ⟨rfl, rfl⟩
theorem stk_save (st l : Nat) (D : Option (Nat × Nat × Nat)) (w : World) (h : StkS w st l D) :
    Calls Tryz.prog 68 #[.pointer (some ⟨st, 0, none⟩)] w fun e w' => e = .returned (.int .i64 (l : Int)) ∧ w = w' := by
  rcases h with ⟨rfl, hb, rfl⟩ | ⟨si, gr, c, rfl, hb, hi, _⟩
  · have c0 := hb.cell 0
    clear hb
    go_enter Tryz.func68, Tryz.ntmps68
    go_wp2
    go_ret
    exact ⟨rfl, rfl⟩
  · have c0 := hb.cell 0
    have HC := Lib.hid (inner_save si _ l c w hi)
    clear hb hi
    go_enter Tryz.func68, Tryz.ntmps68
    go_wp2_with fail
    refine HC.out.mono ?_
    rintro e w' ⟨rfl, rfl⟩
    go_wp2
    go_ret
    exact ⟨rfl, rfl⟩
/-- Words given back: only the inner stack's block turns. -/
def Back (st l0 : Nat) (D : Option (Nat × Nat × Nat)) (w w' : World) : Prop := StkS w' st l0 D ∧ Only (fun b => ∃ gr c, D = some (b, gr, c)) w w'
theorem back_some {st l0 l si gr c : Nat} {w : World} (h : StkS w st l (some (si, gr, c))) (hl : l0 ≤ c) : Back st l0 (some (si, gr, c)) w (w.setCell ⟨si, 0, none⟩ (.slice (some ⟨gr, 0, none⟩) l0 c)) := by
  rcases h with ⟨h, _⟩ | ⟨si', gr', c', hD, hb, hi, hr, hlc, hcm, hgs, hss, hsg⟩
  · simp at h
  simp only [Option.some.injEq, Prod.mk.injEq] at hD
  obtain ⟨rfl, rfl, rfl⟩ := hD
  refine ⟨.inr ⟨si, gr, c, rfl, hb.far (p := ⟨si, 0, none⟩) hss _, by simpa using hi.put 0 (.slice (some ⟨gr, 0, none⟩) l0 c), Wr.rowB ((Wr.refl si 0 1 w).set (Nat.le_refl _) (by omega) _) hr, hl, hcm, hgs, hss, hsg⟩, (Only.refl _ w).setCell (p := ⟨si, 0, none⟩) (.inl ⟨gr, c, rfl⟩) _⟩
theorem stk_restore (st l0 l : Nat) (D : Option (Nat × Nat × Nat)) (u : FrameMode) (w : World) (h : StkS w st l D) (hl : l0 ≤ l) :
    CallsD Tryz.prog 67 #[.pointer (some ⟨st, 0, none⟩), .int .i64 (l0 : Int)] u w fun e u' w' => u' = u ∧ (e = .returned (.tuple #[]) ∧ Back st l0 D w w') := by
  have HS := Lib.hid h
  rcases h with ⟨rfl, hb, rfl⟩ | ⟨si, gr, c, rfl, hb, hi, _, hlc, _⟩
  · have c0 := hb.cell 0
    clear hb
    obtain rfl : l0 = 0 := by omega
    go_enter_d Tryz.func67, Tryz.ntmps67
    go_wp2
    refine bodyPost_ret (results_none rfl _ _ _) rfl ?_
    exact ⟨rfl, HS.out, Only.refl _ _⟩
  · have c0 := hb.cell 0
    have HC := Lib.hid (inner_restore si gr l0 l c w hi (by omega))
    have HL : Hid (l0 ≤ c) := by unfold Hid; omega
    clear hb hi hl hlc
    go_enter_d Tryz.func67, Tryz.ntmps67
    go_wp2_with fail
    refine HC.out.mono ?_
    rintro e w' ⟨rfl, rfl⟩
    go_wp2
    go_end0
    exact ⟨rfl, back_some HS.out HL.out⟩
theorem stk_free (st l : Nat) (D : Option (Nat × Nat × Nat)) (u : FrameMode) (w : World) (h : StkS w st l D) :
    CallsD Tryz.prog 56 #[.pointer (some ⟨st, 0, none⟩)] u w fun e u' w' => u' = u ∧ (e = .returned (.tuple #[]) ∧ Back st 0 D w w') := by
  have HS := Lib.hid h
  rcases h with ⟨rfl, hb, rfl⟩ | ⟨si, gr, c, rfl, hb, hi, _, hlc, _⟩
  · have c0 := hb.cell 0
    clear hb
    go_enter_d Tryz.func56, Tryz.ntmps56
    go_wp2
    go_end0
    exact ⟨rfl, HS.out, Only.refl _ _⟩
  · have c0 := hb.cell 0
    have HC := Lib.hid (inner_free si gr l c w hi)
    clear hb hi
    go_enter_d Tryz.func56, Tryz.ntmps56
    go_wp2_with fail
    refine HC.out.mono ?_
    rintro e w' ⟨rfl, rfl⟩
    go_wp2
    go_end0
    exact ⟨rfl, back_some HS.out (Nat.zero_le _)⟩
end Go.Proofs.YtndeolcamgnmdaaGreatDoor
