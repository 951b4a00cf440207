/- A tuple of texts gone through. -/
import Derived.Test.YteibkaonofkcbaaGreatDoorUnpackSp
import Derived.Test.YteibkaonofkcbaaGreatDoorTextsV
namespace Go.Proofs.YteibkaonofkcbaaGreatDoor
open Go.RowKit
attribute [local go_sem ↓] Go.wp_at_zero Go.wp_at_succ
theorem tup_iter (a : Option Addr) (n c : Nat) (w : World) :
    Calls Tryz.prog 114 #[.slice a n c] w fun e w' => e = .returned (.iface 220 (.pointer (some ⟨w.heap.size, 0, none⟩))) ∧ w' = w.alloc (.cells #[.slice a n c] 222) := by
  go_enter Tryz.func114, Tryz.ntmps114
  go_wp2
  go_ret
  exact ⟨rfl, rfl⟩
theorem tup_slice (G i m k : Nat) (hk : m + 1 ≤ k) : ∃ a' k', m ≤ k' ∧ (0 < m → a' = some ⟨G, i + 1, none⟩) ∧ ∀ w : World, (Instr.slice 56 (.slice (some ⟨G, i, none⟩) (m + 1) k) (some (.int .i64 1)) none none).run Tryz.prog w = .ok (.slice a' m k') w := by
  have hs : ∀ w, (sizeOf 49).run Tryz.prog w = .ok 1 w := fun w => by kernel_rfl
  by_cases h : k = 1
  · subst h
    obtain rfl : m = 0 := by omega
    exact ⟨some ⟨G, i, none⟩, 0, Nat.le_refl _, fun h => by omega, fun w => by simp [Instr.slice, run_underlying Tryz.underlying56, Instr.sliceBounds, Instr.sliceBound, asIntOf, hs]⟩
  · exact ⟨some ⟨G, i + 1, none⟩, k - 1, by omega, fun _ => rfl, fun w => by
      have h1 : 1 ≤ k := by omega
      have h2 : ¬ (1 = k) := fun e => h e.symm
      simp [Instr.slice, run_underlying Tryz.underlying56, Instr.sliceBounds, Instr.sliceBound, asIntOf, h1, h2, h, hs, Addr.add_lit]
      try omega⟩
def NextPost (it x G i m : Nat) (t : ByteArray) (w : World) (e : Ending) (w' : World) : Prop := e = .returned (.bool true) ∧ (∃ a' k', m ≤ k' ∧ (0 < m → a' = some ⟨G, i + 1, none⟩) ∧ Blk w' it 222 #[.slice a' m k']) ∧ Blk w' x 49 #[txV t] ∧ Only (fun q => q = it ∨ q = x) w w'
set_option maxRecDepth 20000 in
set_option maxHeartbeats 4000000 in
theorem tup_next (it x G i m k : Nat) (old : Value) (t : ByteArray) (w : World) (h : Blk w it 222 #[.slice (some ⟨G, i, none⟩) (m + 1) k]) (hx : Blk w x 49 #[old]) (hk : m + 1 ≤ k) (hne : it ≠ x) (hc : w.cell? ⟨G, i, none⟩ = some (txV t)) :
    Calls Tryz.prog 169 #[.pointer (some ⟨it, 0, none⟩), .pointer (some ⟨x, 0, none⟩)] w (NextPost it x G i m t w) := by
  obtain ⟨a', k', hk', ha', hsl⟩ := tup_slice G i m k hk
  have HA := Lib.hid (And.intro hk' ha')
  obtain ⟨c0, f0⟩ := blk_one h
  obtain ⟨x0, xf⟩ := blk_one hx
  have H := Lib.hid h
  have HX := Lib.hid hx
  have HNE := Lib.hid hne
  have hd : decide ((0 : Int) < ((m + 1 : Nat) : Int)) = true := decide_eq_true (by omega)
  have hl : (0 : Int) < ((m + 1 : Nat) : Int) := by omega
  obtain ⟨M, hM⟩ : ∃ M, M = m + 1 := ⟨_, rfl⟩
  have HM := Lib.hid hM
  rw [← hM] at hd hl c0 hsl
  have hne2 : x ≠ it := fun e => hne e.symm
  unfold txV at hc
  clear h hx hk hk' ha' hM
  go_enter Tryz.func169, Tryz.ntmps169
  go_wp2
  go_ret
  refine ⟨rfl, ⟨a', k', HA.out.1, HA.out.2, ?_⟩, ?_, ?_⟩
  · exact (H.out.far (p := ⟨x, 0, none⟩) HNE.out _).put 0 _
  · exact ((HX.out.put 0 _).far (p := ⟨it, 0, none⟩) (fun e => HNE.out e.symm) _)
  · exact ((Only.refl _ w).setCell (p := ⟨x, 0, none⟩) (.inl (.inr rfl)) _).setCell (p := ⟨it, 0, none⟩) (.inl (.inl rfl)) _
end Go.Proofs.YteibkaonofkcbaaGreatDoor
