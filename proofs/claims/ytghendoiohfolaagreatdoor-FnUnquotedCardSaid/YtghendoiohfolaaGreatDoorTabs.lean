/- Go's two tables of utf8, as the row lists them, and what keeps them. -/
import Derived.Test.YtghendoiohfolaaGreatDoorRows
import Derived.Test.YtghendoiohfolaaGreatDoorShelf
import Derived.Test.YtghendoiohfolaaGreatDoorStr
import Derived.Lib.LaidU8
namespace Go.Proofs.YtghendoiohfolaaGreatDoor
set_option linter.unusedSimpArgs false
set_option linter.unusedVariables false
set_option linter.unnecessarySimpa false
open Go.RowKit Go.Shelf
def Tabs (w : World) : Prop := Lib.Utf8Tabs 1 2 w
theorem tabs_below {w w' : World} (h : Tabs w) (hb : Below w.heap.size w w') : Tabs w' := by
  have l1 : 1 < w.heap.size := World.block_lt_of_cell? w _ (h.1 0 (by decide))
  have l2 : 2 < w.heap.size := World.block_lt_of_cell? w _ (h.2 0 (by decide)).1
  refine ⟨fun c hc => (hb.cell (p := ⟨_, _, none⟩) l1).trans (h.1 c hc), fun i hi => ⟨(hb.cell (p := ⟨_, _, none⟩) l2).trans (h.2 i hi).1, (hb.cell (p := ⟨_, _, none⟩) l2).trans (h.2 i hi).2⟩⟩
theorem tabs_of_reads {W : World} (r1 : Lib.VarReads Tryz.prog W "unicode/utf8.first" Lib.firstData) (r2 : Lib.VarReads Tryz.prog W "unicode/utf8.acceptRanges" Lib.acceptData) : Tabs W :=
  utf8Tabs_of_reads Tryz.lays260 ⟨by kernel_rfl, by kernel_rfl, by kernel_rfl, by kernel_rfl, by kernel_rfl, by kernel_rfl, by kernel_rfl⟩ r1 r2
/-- utf8.DecodeRuneInString of what is left of a text. -/
theorem decode_rest (s : ByteArray) (w : World) (hT : Tabs w) (hs : 0 < s.size) :
    Calls Tryz.prog 11 #[.string s] w fun e w' => e = .returned (.tuple #[.int .i32 (Utf8.decode s 0).1, .int .i64 (Utf8.decode s 0).2]) ∧ Below w.heap.size w w' := by
  have h := Tryz.utf8_DecodeRuneInString s w hT
  have e : Lib.decodeGo s = Utf8.decode s 0 := by unfold Lib.decodeGo; rw [if_neg (by omega)]
  rw [e] at h
  exact h
end Go.Proofs.YtghendoiohfolaaGreatDoor
