/- The package's table of one-sign escapes, and Go's error of syntax, as the row lists them. -/
import Derived.Test.YtghendoiohfolaaGreatDoorRows
import Derived.Test.YtghendoiohfolaaGreatDoorParseHexP
import Derived.Lib.LaidU8
import Derived.LaidLaws
namespace Go.Proofs.YtghendoiohfolaaGreatDoor
set_option linter.unusedSimpArgs false
set_option linter.unusedVariables false
set_option linter.unnecessarySimpa false
open Go.RowKit Go.Shelf Go.ChangeShapes
/-- The signs that denote one byte have it in the package's table. -/
def UnescT (w : World) : Prop := ∀ c x : UInt8, one? c = some x → w.cell? ⟨0, c.toNat, none⟩ = some (.int .u8 (x.toNat : Int))
theorem UnescT.below {w w' : World} (h : UnescT w) (hb : Below w.heap.size w w') : UnescT w' := fun c x hc => by
  have h1 := h c x hc
  exact (hb.cell (p := ⟨_, _, none⟩) (World.block_lt_of_cell? w _ h1)).trans h1
def unescZ : List Int := [0, 0, 0, 0, 0, 0, 0, 0, 0, 0, 0, 0, 0, 0, 0, 0, 0, 0, 0, 0, 0, 0, 0, 0, 0, 0, 0, 0, 0, 0, 0, 0, 0, 0, 34, 0, 0, 0, 0, 39, 0, 0, 0, 0, 0, 0, 0, 0, 0, 0, 0, 0, 0, 0, 0, 0, 0, 0, 0, 0, 0, 0, 0, 0, 0, 0, 0, 0, 0, 0, 0, 0, 0, 0, 0, 0, 0, 0, 0, 0, 0, 0, 0, 0, 0, 0, 0, 0, 0, 0, 0, 0, 92, 0, 0, 0, 0, 7, 8, 0, 0, 0, 12, 0, 0, 0, 0, 0, 0, 0, 10, 0, 0, 0, 13, 0, 9, 0, 11, 0, 0, 0, 0, 0, 0, 0, 0, 0, 0, 0, 0, 0, 0, 0, 0, 0, 0, 0, 0, 0, 0, 0, 0, 0, 0, 0, 0, 0, 0, 0, 0, 0, 0, 0, 0, 0, 0, 0, 0, 0, 0, 0, 0, 0, 0, 0, 0, 0, 0, 0, 0, 0, 0, 0, 0, 0, 0, 0, 0, 0, 0, 0, 0, 0, 0, 0, 0, 0, 0, 0, 0, 0, 0, 0, 0, 0, 0, 0, 0, 0, 0, 0, 0, 0, 0, 0, 0, 0, 0, 0, 0, 0, 0, 0, 0, 0, 0, 0, 0, 0, 0, 0, 0, 0, 0, 0, 0, 0, 0, 0, 0, 0, 0, 0, 0, 0, 0, 0, 0, 0, 0, 0, 0, 0, 0, 0, 0, 0, 0, 0, 0, 0, 0, 0, 0, 0]
theorem unesc_at : ∀ k : Fin 256, ∀ x : Fin 256, one? (UInt8.ofNat k.1) = some (UInt8.ofNat x.1) → unescZ.getD k.1 0 = (x.1 : Int) := by decide +kernel
theorem unesc_of_reads {W : World} (h : Lib.VarReads Tryz.prog W "given.example/pub-larkspur/pub/starlark/syntax.unesc" (Lib.tabData .u8 unescZ)) : UnescT W := by
  intro c x hc
  obtain ⟨g, t, cs, fuel, p, hg, hty, hvar, hd⟩ := h
  obtain rfl := Option.some.inj ((show Tryz.prog.globalNamed "given.example/pub-larkspur/pub/starlark/syntax.unesc" = some 0 by kernel_rfl).symm.trans hg)
  obtain rfl := Option.some.inj ((show (Tryz.prog.globals[0]?).map (·.type) = some 70 by kernel_rfl).symm.trans hty)
  have hcs := Lib.cells_of_tab Tryz.underlying70 Tryz.underlying5 (by kernel_rfl) (by kernel_rfl) hd
  have h1 := World.var?_cell hg hvar c.toNat
  rw [h1, ← Array.getElem?_toList, hcs]
  have hx := unesc_at ⟨c.toNat, c.toNat_lt⟩ ⟨x.toNat, x.toNat_lt⟩
  simp only [UInt8.ofNat_toNat] at hx
  have hv := hx hc
  have hl : unescZ.length = 256 := by decide +kernel
  have hlt := c.toNat_lt
  rw [List.getElem?_map, List.getElem?_eq_getElem (by rw [hl]; exact hlt)]
  rw [List.getD_eq_getElem?_getD, List.getElem?_eq_getElem (by rw [hl]; exact hlt)] at hv
  simp only [Option.getD_some] at hv
  rw [hv]
  rfl
theorem err_of_reads {W : World} {nm : String} {d : DataW Unit} (h : Lib.VarReads Tryz.prog W "strconv.ErrSyntax" (.iface nm d)) : ErrOk W := by
  obtain ⟨g, t, cs, fuel, p, hg, hty, hvar, hd⟩ := h
  obtain rfl := Option.some.inj ((show Tryz.prog.globalNamed "strconv.ErrSyntax" = some 4 by kernel_rfl).symm.trans hg)
  obtain rfl := Option.some.inj ((show (Tryz.prog.globals[4]?).map (·.type) = some 42 by kernel_rfl).symm.trans hty)
  obtain ⟨f', u, v, hcs, _, _⟩ := iface_of_trod Tryz.underlying42 hd
  refine ⟨.iface u v, ?_, .inr ⟨u, v, rfl⟩⟩
  rw [World.var?_cell hg hvar 0, ← Array.getElem?_toList, hcs]
  rfl
end Go.Proofs.YtghendoiohfolaaGreatDoor
