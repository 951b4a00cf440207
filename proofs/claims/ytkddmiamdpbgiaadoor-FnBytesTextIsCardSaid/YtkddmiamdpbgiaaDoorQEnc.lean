/- utf8.EncodeRune at this program, into the array beside the buffer. -/
import Derived.Test.YtkddmiamdpbgiaaDoorQBuf
namespace Go.Proofs
open Go.Shelf
def Tryd.lays7_30_ren : Go.Shelf.Ren := ⟨fun | 30 => 41 | 47 => 48 | n => n, fun | 0 => 0 | 3 => 3 | 4 => 4 | 5 => 5 | 21 => 21 | 25 => 57 | 27 => 54 | 30 => 33 | n => n, fun | n => n⟩
theorem Tryd.lays7_30 : Lays7.n30 Tryd.prog Tryd.lays7_30_ren := {
  mixed := by kernel_rfl
  f30 := Tryd.func41.trans (congrArg some (by kernel_rfl))
  f47 := Tryd.func48.trans (congrArg some (by kernel_rfl))
  t0 := Tryd.underlying0
  a0 := Tryd.isAgg0
  z0 := Tryd.sizeOf0
  v0 := Tryd.zeroValue0
  i0 := by kernel_rfl
  t3 := Tryd.underlying3
  a3 := Tryd.isAgg3
  z3 := Tryd.sizeOf3
  v3 := Tryd.zeroValue3
  i3 := by kernel_rfl
  t4 := Tryd.underlying4
  a4 := Tryd.isAgg4
  z4 := Tryd.sizeOf4
  v4 := Tryd.zeroValue4
  i4 := by kernel_rfl
  t5 := Tryd.underlying5
  a5 := Tryd.isAgg5
  z5 := Tryd.sizeOf5
  v5 := Tryd.zeroValue5
  i5 := by kernel_rfl
  t21 := Tryd.underlying21
  a21 := Tryd.isAgg21
  z21 := Tryd.sizeOf21
  v21 := Tryd.zeroValue21
  i21 := by kernel_rfl
  t25 := Tryd.underlying57
  a25 := Tryd.isAgg57
  z25 := Tryd.sizeOf57
  v25 := Tryd.zeroValue57
  i25 := by kernel_rfl
  t27 := Tryd.underlying54
  a27 := Tryd.isAgg54
  z27 := Tryd.sizeOf54
  v27 := Tryd.zeroValue54
  i27 := by kernel_rfl
  t30 := Tryd.underlying33
  a30 := Tryd.isAgg33
  z30 := Tryd.sizeOf33
  v30 := Tryd.zeroValue33
  i30 := by kernel_rfl }
namespace YtkddmiamdpbgiaaDoor
open Go.RowKit
theorem set_cells_at {b : Nat} {t : TypeId} (vs : List Value) (o : Nat) (w : World) (cs : Array Value) (hb : Blk w b t cs) (hl : o + vs.length ≤ cs.size) (j : Nat) (u : Value) (h : vs[j]? = some u) : (w.setCells b o vs).cell? ⟨b, o + j, none⟩ = some u := by
  obtain ⟨hj, e⟩ := List.getElem?_eq_some_iff.1 h
  rw [World.cell?_setCells_in b vs o w (fun k hk => by rw [hb.cell (o + k)]; simp; omega) j hj, e]
theorem enc_qb {w0 w : World} {b : Nat} {v : Value} {xs : List Int} (r : Int) (h0 : 0 ≤ r) (h1 : r ≤ 2147483647) (hq : QB w0 b v xs w) :
    Calls Tryd.prog 41 #[.slice (some ⟨b, 0, none⟩) 4 4, .int .i32 r] w fun e w' => e = .returned (.int .i64 (Lib.encodeRuneZ r).length) ∧ QB w0 b v xs w' ∧ ∀ j u, (Lib.intCells (Lib.encodeRuneZ r))[j]? = some u → w'.cell? ⟨b, j, none⟩ = some u := by
  have hq' := hq
  obtain ⟨_, _, cs, hB, h4⟩ := hq
  have hle := (Lib.encodeRuneZ_length r).2
  have hrl : (Lib.runeCells r).length = (Lib.encodeRuneZ r).length := by simp [Lib.runeCells]
  refine (Any7.utf8_EncodeRune Tryd.lays7_30 b 0 4 4 r (by omega) h1 w (by omega) (fun j hj => ?_) (fun j _ => hB.frozen (0 + j))).mono ?_
  · rw [hB.cell (0 + j)]
    simp; omega
  · rintro e w' ⟨rfl, rfl⟩
    refine ⟨by rw [hrl], hq'.setCells _, fun j u hj => ?_⟩
    have := set_cells_at (Lib.runeCells r) 0 w cs hB (by omega) j u hj
    simpa using this
end YtkddmiamdpbgiaaDoor
end Go.Proofs
