/- A builder of texts: the copy check, a text written. -/
import Derived.Test.YtmpfffcdpecadaaGreatDoorShelf
import Derived.Test.YtmpfffcdpecadaaGreatDoorStr
import Derived.Lib.Hide
namespace Go.Proofs.YtmpfffcdpecadaaGreatDoor
open Go.RowKit
/-- The builder in block b holds the bytes l. -/
def SB (w : World) (B b : Nat) (l : List UInt8) : Prop := Lib.IsBuilder 83 5 B b (Lib.byteCells l) w
theorem Tryz.sizeB : (Tryz.prog.info? 83).map (·.size) = some 2 := by kernel_rfl
theorem Tryz.liesB : liesAt Tryz.prog Tryz.prog.depth 83 (2 / Tryz.prog.cellsOf 83) 0 83 1 = true := by kernel_rfl
theorem Tryz.infoB : (Tryz.prog.info? 5).map (fun i => (i.zero, i.size, i.bytes)) = some (some (.int .u8 0), 1, 1) := by kernel_rfl
set_option maxHeartbeats 2000000 in
set_option maxRecDepth 100000 in
theorem check_fresh (b : Nat) (w : World) (h0 : w.cell? ⟨b, 0, none⟩ = some (.pointer none)) (hsh : w.shape? b = some (83, 2)) (hfz : w.frozen? ⟨b, 0, none⟩ = false) :
    Calls Tryz.prog 44 #[.pointer (some ⟨b, 0, none⟩)] w fun e w' => e = .returned (.tuple #[]) ∧ w' = w.setCell ⟨b, 0, none⟩ (.pointer (some ⟨b, 0, none⟩)) := by
  obtain ⟨j, hj, hjs⟩ := Option.map_eq_some_iff.1 Tryz.sizeB
  go_enter Tryz.func44, Tryz.ntmps44
  go_wp2
  rw [Lib.run_to_unsafe w ⟨b, 0, none⟩ Tryz.underlying81 Tryz.underlying150 hj (by rw [hjs]; decide) hsh (Nat.zero_lt_succ 1)]
  simp only [Result.andThen]
  rw [Oper.upon_value]
  go_wp2
  rw [run_callFunc_extern Tryz.func57 (by kernel_rfl) (by kernel_rfl) (by kernel_rfl) (e := Extern.AbiNoEscape.same) (by kernel_rfl)]
  rw [Lib.run_noEscape]
  simp only [Result.andThen]
  rw [Oper.upon_value]
  go_wp2
  rw [Lib.run_from_unsafe w ⟨b, 0, none⟩ Tryz.underlying150 Tryz.underlying81 hj hsh Tryz.liesB]
  simp only [Result.andThen]
  rw [Oper.upon_value]
  go_wp2
  go_end0
  exact ⟨rfl, rfl⟩
set_option maxHeartbeats 2000000 in
set_option maxRecDepth 100000 in
theorem check_used (b : Nat) (w : World) (h0 : w.cell? ⟨b, 0, none⟩ = some (.pointer (some ⟨b, 0, none⟩))) :
    Calls Tryz.prog 44 #[.pointer (some ⟨b, 0, none⟩)] w fun e w' => e = .returned (.tuple #[]) ∧ w' = w := by
  obtain ⟨j, hj, _⟩ := Option.map_eq_some_iff.1 Tryz.sizeB
  go_enter Tryz.func44, Tryz.ntmps44
  go_wp2
  rw [Lib.run_neq_ptr_same w _ Tryz.underlying81 hj]
  go_wp2
  go_end0
  exact ⟨rfl, rfl⟩
theorem check_any (B b : Nat) (l : List UInt8) (w : World) (h : SB w B b l) :
    Calls Tryz.prog 44 #[.pointer (some ⟨b, 0, none⟩)] w fun e w' => e = .returned (.tuple #[]) ∧ Lib.BuilderAt 83 5 B b (.pointer (some ⟨b, 0, none⟩)) (Lib.byteCells l) w' ∧ Below B w w' := by
  rcases h with h | h
  · refine (check_fresh b w h.cell0 h.shape h.frozen0).mono ?_
    rintro e w' ⟨rfl, rfl⟩
    exact ⟨rfl, h.used _, (Below.refl B w).setCell (p := ⟨b, 0, none⟩) h.1 _⟩
  · refine (check_used b w h.cell0).mono ?_
    rintro e w' ⟨rfl, rfl⟩
    exact ⟨rfl, h, Below.refl B _⟩
theorem builder_text (B b : Nat) (l : List UInt8) (w : World) (h : SB w B b l) (hBw : B ≤ w.heap.size) :
    Calls Tryz.prog 36 #[.pointer (some ⟨b, 0, none⟩)] w fun e w' => e = .returned (.string ⟨l.toArray⟩) ∧ Below B w w' := Tryz.Builder_String_any B b l w h hBw
theorem sb_new (w : World) : SB (w.alloc (.cells #[.pointer none, .slice none 0 0] 83)) w.heap.size w.heap.size [] :=
  .inl ⟨Nat.le_refl _, .slice none 0 0, heap_alloc_new w _, World.ownsRow_nil _ _ _ _, by simp [Value.ownBlock]⟩
end Go.Proofs.YtmpfffcdpecadaaGreatDoor
