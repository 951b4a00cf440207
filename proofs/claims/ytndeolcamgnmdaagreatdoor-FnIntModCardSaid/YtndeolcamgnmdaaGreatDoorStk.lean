/- math/big's stack of temporaries: words of its own. -/
import Derived.Test.YtndeolcamgnmdaaGreatDoorWRow
import Derived.Test.YtndeolcamgnmdaaGreatDoorShelfG
import Derived.Deep.DeepCutAuto
set_option linter.unusedVariables false
set_option linter.unusedSimpArgs false
set_option linter.unnecessarySimpa false
namespace Go.Proofs.YtndeolcamgnmdaaGreatDoor
open Go.RowKit
theorem grown_row (w : World) (cs : List Value) (k m : Nat) : RowB (w.drew.alloc (.cells (cs.toArray ++ Builtin.zeroCells (Value.int .u64 0).cells k ++ Builtin.zeroCells (Value.int .u64 0).cells m) 83)) w.heap.size (cs.length + k + m) := by
  refine ⟨_, heap_alloc_new w.drew _, ?_⟩
  simp [Builtin.zeroCells, Value.cells]
  omega
def GrowPost (l n : Nat) (w : World) (e : Ending) (w' : World) : Prop :=
  ∃ G, e = .returned (.slice (some ⟨w.heap.size, 0, none⟩) l G) ∧ l + n ≤ G ∧ G ≤ maxLen ∧ RowB w' w.heap.size G ∧ Below w.heap.size w w' ∧ w'.heap.size = w.heap.size + 1
theorem grow_nat (n : Nat) (h1 : 1 ≤ n) (h2 : n ≤ 100000) (w : World) :
    Calls Tryz.prog 87 #[.slice none 0 0, .int .i64 (n : Int)] w (GrowPost 0 n w) := by
  obtain ⟨i0, hi, hz0, hz1, hz2⟩ := info_parts Tryz.infoWord
  refine (Any8.slices_Grow_grow Tryz.growN i0 (.int .u64 0) hi hz0 (by rw [hz1]; decide) none 0 0 n [] w (by omega) (by omega) (by rw [hz2]; omega) (by omega) (by simp) (fun _ => rfl) (fun a h => by simp at h)).mono ?_
  rintro e w' ⟨rfl, rfl⟩
  have hle := grownCap_ge w (0 + n) 0 83
  refine ⟨_, rfl, hle, grownCap_le_maxLen w (0 + n) 0 83 (by unfold maxLen; omega), ?_, ((below_dn (Below.refl _ w) 1).alloc (Nat.le_refl _) _), by simp⟩
  have h := grown_row w [] (0 + n - 0) (grownCap w (0 + n) 0 83 - (0 + n))
  have e : ([] : List Value).length + (0 + n - 0) + (grownCap w (0 + n) 0 83 - (0 + n)) = grownCap w (0 + n) 0 83 := by rw [List.length_nil]; omega
  rw [e] at h
  exact h
theorem grow_nil (n : Nat) (h1 : 1 ≤ n) (h2 : n ≤ 100000) (w : World) :
    Calls Tryz.prog 103 #[.slice none 0 0, .int .i64 (n : Int)] w (GrowPost 0 n w) := by
  obtain ⟨i0, hi, hz0, hz1, hz2⟩ := info_parts Tryz.infoWord
  refine (Any8.slices_Grow_grow Tryz.growW i0 (.int .u64 0) hi hz0 (by rw [hz1]; decide) none 0 0 n [] w (by omega) (by omega) (by rw [hz2]; omega) (by omega) (by simp) (fun _ => rfl) (fun a h => by simp at h)).mono ?_
  rintro e w' ⟨rfl, rfl⟩
  have hle := grownCap_ge w (0 + n) 0 83
  refine ⟨_, rfl, hle, grownCap_le_maxLen w (0 + n) 0 83 (by unfold maxLen; omega), ?_, ((below_dn (Below.refl _ w) 1).alloc (Nat.le_refl _) _), by simp⟩
  have h := grown_row w [] (0 + n - 0) (grownCap w (0 + n) 0 83 - (0 + n))
  have e : ([] : List Value).length + (0 + n - 0) + (grownCap w (0 + n) 0 83 - (0 + n)) = grownCap w (0 + n) 0 83 := by rw [List.length_nil]; omega
  rw [e] at h
  exact h
theorem grow_room (g l c n : Nat) (hlc : l + n ≤ c) (hc : c ≤ maxLen) (w : World) :
    Calls Tryz.prog 103 #[.slice (some ⟨g, 0, none⟩) l c, .int .i64 (n : Int)] w fun e w' => e = .returned (.slice (some ⟨g, 0, none⟩) l c) ∧ w = w' := by
  unfold maxLen at hc
  refine (Any8.slices_Grow_room Tryz.growW _ l c n w (by omega) (by omega) (by omega) hlc).mono ?_
  rintro e w' ⟨he, hw⟩
  exact ⟨he, hw.symm⟩
theorem grow_more (g l c n : Nat) (hlc : l ≤ c) (hno : c < l + n) (hb : l + n ≤ 100000) (w : World) (hr : RowB w g c) :
    Calls Tryz.prog 103 #[.slice (some ⟨g, 0, none⟩) l c, .int .i64 (n : Int)] w (GrowPost l n w) := by
  obtain ⟨i0, hi, hz0, hz1, hz2⟩ := info_parts Tryz.infoWord
  obtain ⟨cur, hg, hs⟩ := hr
  have hbytes : (l + n) * i0.bytes ≤ 140737488355328 := by rw [hz2]; omega
  have hlen : cur.toList.length = c * i0.size := by rw [hz1, Array.length_toList, hs]; omega
  refine (Any8.slices_Grow_grow Tryz.growW i0 (.int .u64 0) hi hz0 (by rw [hz1]; decide) (some ⟨g, 0, none⟩) l c n cur.toList w hlc hno hbytes (by omega) hlen (fun h => by simp at h) (fun a h j v hj => ?_)).mono ?_
  · have h2 : a = ⟨g, 0, none⟩ := (Option.some.inj h).symm
    subst h2
    rw [Addr.add_lit, Nat.zero_add]
    rw [cell_of_row w g j cur _ _ hg]
    simpa using hj
  · rintro e w' ⟨rfl, rfl⟩
    have hle := grownCap_ge w (l + n) c 83
    refine ⟨_, rfl, hle, grownCap_le_maxLen w (l + n) c 83 (by unfold maxLen; omega), ?_, ((below_dn (Below.refl _ w) 1).alloc (Nat.le_refl _) _), by simp⟩
    have h := grown_row w cur.toList (l + n - c) (grownCap w (l + n) c 83 - (l + n))
    have e : cur.toList.length + (l + n - c) + (grownCap w (l + n) c 83 - (l + n)) = grownCap w (l + n) c 83 := by simp [hs]; omega
    rw [e] at h
    exact h
end Go.Proofs.YtndeolcamgnmdaaGreatDoor
