/- What a builder of texts holds, as a text; nothing but its row turns. -/
import Derived.Test.YtmpfffcdpecadaaGreatDoorWByte
import Derived.RegionTactic
import Derived.ChangeAlike
namespace Go.Proofs.YtmpfffcdpecadaaGreatDoor
open Go.RowKit
theorem only_freeze {S : Nat → Prop} {w w' : World} (h : Only S w w') {p : Addr} (hp : S p.block) (n : Nat) : Only S w (w'.freeze p n) := by
  refine h.trans ?_
  unfold World.freeze
  split
  · exact Only.refl S w'
  · refine ⟨rfl, rfl, rfl, by simp, fun k hk hs => ?_⟩
    simp only [Array.getElem?_modify]
    rw [if_neg (fun e => hs (by rw [← e]; exact hp))]
def TextPost (b : Nat) (l : List UInt8) (w : World) (e : Ending) (w' : World) : Prop := e = .returned (.string ⟨l.toArray⟩) ∧ Only (fun g => ¬ Off w b g) w w'
set_option maxHeartbeats 2000000 in
set_option maxRecDepth 100000 in
theorem text_some (B b : Nat) (l : List UInt8) (w : World) (h : SB w B b l) (h0 : l ≠ []) :
    Calls Tryz.prog 36 #[.pointer (some ⟨b, 0, none⟩)] w (TextPost b l w) := by
  obtain ⟨p, hB, v, hbk, hown, hne⟩ : ∃ p, Lib.BuilderAt 83 5 B b p (Lib.byteCells l) w := by
    rcases h with h | h
    · exact ⟨_, h⟩
    · exact ⟨_, h⟩
  have hl0 : 0 < l.length := List.length_pos_iff.2 h0
  rw [Lib.byteCells_length] at hown
  obtain ⟨g, cap, hv, hcap, hsh⟩ : ∃ g cap, v = .slice (some ⟨g, 0, none⟩) l.length cap ∧ (l.length ≤ cap ∧ cap ≤ maxLen) ∧ w.shape? g = some (5, cap) := by
    rcases hown.2 with ⟨_, hz⟩ | ⟨g, cap, cur, hv, _, hh, hnc, hcm, hcs, _⟩
    · omega
    · exact ⟨g, cap, hv, ⟨hnc, hcm⟩, by simp [World.shape?, hh]; omega⟩
  subst hv
  have c1 : w.cell? ⟨b, 1, none⟩ = some (.slice (some ⟨g, 0, none⟩) l.length cap) := by rw [Lib.cell_of_heap hbk]; rfl
  have hoff : ¬ Off w b g := fun h => h _ c1 rfl
  have hSD : ∀ W : World, (Builtin.unsafeSliceData_ #[26] 92 #[.slice (some ⟨g, 0, none⟩) l.length cap]).run Tryz.prog W = .ok (.pointer (some ⟨g, 0, none⟩)) W :=
    fun W => Lib.run_unsafeSliceData_row _ _ _ _ _ _ (by omega)
  have hUS : (Builtin.unsafeString_ #[92, 3] 9 #[.pointer (some ⟨g, 0, none⟩), .int .i64 l.length]).run Tryz.prog w.drew = .ok (.string ⟨l.toArray⟩) (w.drew.freeze ⟨g, 0, none⟩ l.length) := by
    refine Lib.run_unsafeString_row w.drew 92 3 9 5 Tryz.underlying92 (by kernel_rfl) g cap hsh l h0 (by omega) (by unfold maxLen at hcap; omega) ?_
    intro j x hx
    exact hown.cells (g := g) rfl j (.int .u8 x.toNat) (by simp [Lib.byteCells, hx])
  have c1d : w.drew.cell? ⟨b, 1, none⟩ = some (.slice (some ⟨g, 0, none⟩) l.length cap) := c1
  have HO := Lib.hid hoff
  clear hbk hown hne hoff hsh h h0 hB c1
  go_enter Tryz.func36, Tryz.ntmps36
  go_wp2
  go_region
  all_goals
    go_wp2
    go_ret
    refine ⟨rfl, only_freeze (Only.refl _ w).drew HO.out _⟩
theorem builder_text2 (B b : Nat) (l : List UInt8) (w : World) (h : SB w B b l) : Calls Tryz.prog 36 #[.pointer (some ⟨b, 0, none⟩)] w (TextPost b l w) := by
  cases l with
  | cons x r => exact text_some B b (x :: r) w h (by simp)
  | nil =>
    obtain ⟨p, hB, v, hbk, hown, hne⟩ : ∃ p, Lib.BuilderAt 83 5 B b p (Lib.byteCells []) w := by
      rcases h with h | h
      · exact ⟨_, h⟩
      · exact ⟨_, h⟩
    have fin : ∀ {w' : World}, Below w.heap.size w w' → Only (fun g => ¬ Off w b g) w w' := fun h => Only.of_below h
    rcases hown.2 with ⟨rfl, _⟩ | ⟨g, cap, cur, rfl, _, hh, _⟩
    · exact (Any.Builder_String_nil Tryz.lays169 Tryz.Builder_Extra_169 w.heap.size b p w hbk).mono fun _ _ ⟨e, hb⟩ => ⟨e, fin hb⟩
    · by_cases hc : cap = 0
      · subst hc
        exact (Any.Builder_String_noroom Tryz.lays169 Tryz.Builder_Extra_169 w.heap.size b g p cur w (Nat.le_refl _) hbk hh).mono fun _ _ ⟨e, hb⟩ => ⟨e, fin hb⟩
      · exact (Any.Builder_String_room Tryz.lays169 Tryz.Builder_Extra_169 w.heap.size b g cap p w hc hbk).mono fun _ _ ⟨e, hb⟩ => ⟨e, fin hb⟩
end Go.Proofs.YtmpfffcdpecadaaGreatDoor
