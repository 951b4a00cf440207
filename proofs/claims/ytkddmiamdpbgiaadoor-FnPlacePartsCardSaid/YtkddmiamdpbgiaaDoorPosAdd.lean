/- The walk of the package's Position.add: the place behind a text. -/
import Derived.Test.YtkddmiamdpbgiaaDoorNlCount
import Derived.Laws.Pointers
import Derived.IntWalk
namespace Go.Proofs.YtkddmiamdpbgiaaDoor
open Go.RowKit
theorem rune_count (s : ByteArray) (hs : s.size ≤ 2000) (w : World) :
    Calls Tryd.prog 38 #[.string s] w fun e w' => e = .returned (.int .i64 (rc s.data.toList : Nat)) ∧ Below w.heap.size w w' := by
  have h := Tryd.utf8_RuneCountInString s w (by omega)
  have e : rc s.data.toList = Lib.runeCount s := Lib.runeCountL_eq s
  rw [e]
  exact h.mono fun _ _ ⟨he, pos, hw⟩ => ⟨he, by rw [hw]; exact (Below.refl _ _).alloc (Nat.le_refl _) _⟩
/-- What the last statement leaves: the box, and the place of the result. -/
def Boxed (w : World) (a : Addr) (line col : Int) (s2 s4 : Value) (wx : World) : Prop :=
  s2 = .pointer (some ⟨w.heap.size, 0, none⟩) ∧ s4 = .pointer (some ⟨w.heap.size + 1, 0, none⟩) ∧ Blk wx w.heap.size 38 #[.pointer (some a), .int .i32 line, .int .i32 col] ∧
    Blk wx (w.heap.size + 1) 38 #[.pointer none, .int .i32 0, .int .i32 0] ∧ Below w.heap.size w wx
theorem boxed_of {w X w1 : World} {a : Addr} {line col col' : Int} (h0 : Blk X w.heap.size 38 #[.pointer (some a), .int .i32 line, .int .i32 col']) (h1 : Blk X (w.heap.size + 1) 38 #[.pointer none, .int .i32 0, .int .i32 0])
    (hX : Below w.heap.size w X) (hb : Below X.heap.size X w1) : Boxed w a line col (.pointer (some ⟨w.heap.size, 0, none⟩)) (.pointer (some ⟨w.heap.size + 1, 0, none⟩)) (w1.setCell ⟨w.heap.size, 2, none⟩ (.int .i32 col)) := by
  have g0 := h0.below hb h0.lt
  have g1 := h1.below hb h1.lt
  exact ⟨rfl, rfl, g0.put 2 _, g1.far (p := ⟨w.heap.size, 2, none⟩) (by simp) _, (hX.trans (hb.mono hX.size)).setCell (p := ⟨w.heap.size, 2, none⟩) (Nat.le_refl _) _⟩
set_option maxRecDepth 20000 in
set_option maxHeartbeats 1600000 in
theorem pos_add (a : Addr) (line col : Int) (s : ByteArray) (hs : s.size ≤ 2000) (w : World) (h1 : 0 ≤ line) (h2 : line ≤ 33554432) (h3 : 0 ≤ col) (h4 : col ≤ 33554432) (hn : nls s.data.toList = 0) :
    Calls Tryd.prog 28 #[.agg #[.pointer (some a), .int .i32 line, .int .i32 col], .string s] w fun e w' =>
      e = .returned (.agg #[.pointer (some a), .int .i32 line, .int .i32 (col + rc s.data.toList)]) ∧ Below w.heap.size w w' := by
  have hrc := rc_le s.data.toList
  have hrl : s.data.toList.length = s.size := by simp
  have hr2 : rc s.data.toList ≤ 2000 := by omega
  have HN := Lib.hid hn
  clear hn hrc hrl
  go_enter Tryd.func28, Tryd.ntmps28
  go_wp2_with fail
  refine (count_nl s hs _).mono ?_
  rintro e w' ⟨rfl, rfl⟩
  rw [HN.out]
  go_upto_region 6 with fail
  go_cut [2, 4] (fun s2 s4 wx => Boxed w a line (col + rc s.data.toList) s2 s4 wx)
  case first =>
    go_region_with (go_at_call 38; refine (rune_count s hs _).mono ?_; rintro e w1 ⟨rfl, hb⟩; obtain ⟨hc, hf⟩ := bcell hb)
    all_goals
      go_wp2_with fail
      go_meet
      have e1 : IntKind.i32.wrap (rc s.data.toList : Int) = rc s.data.toList := IntWalk.i32_in _ (by omega)
      have e2 : IntKind.i32.wrap (col + (rc s.data.toList : Int)) = col + rc s.data.toList := IntWalk.i32_in _ (by omega)
      try rw [e1, e2]
      exact boxed_of ((Blk.new _ _ _).alloc _) (Blk.new_at _ _ _ (by simp)) (((Below.refl _ _).alloc (Nat.le_refl _) _).alloc (by simp) _) ⟨hb.os, hb.tape, hb.output, hb.size, hb.block⟩
  case rest =>
    obtain ⟨rfl, rfl, k0, k1, hb⟩ := hcut
    have c0 := k0.cell 0
    have c1 := k0.cell 1
    have c2 := k0.cell 2
    have e0 := k1.cell 0
    have e1 := k1.cell 1
    have e2 := k1.cell 2
    have f0 := k1.frozen 0
    have f1 := k1.frozen 1
    have f2 := k1.frozen 2
    simp only [List.getElem?_toArray, List.getElem?_cons_zero, List.getElem?_cons_succ] at c0 c1 c2 e0 e1 e2
    clear k0 k1
    go_wp2
    refine bodyPost_ret (v := .agg #[.pointer (some a), .int .i32 line, .int .i32 (col + rc s.data.toList)]) (by simp [results, Tryd.results28, go_sem, c0, c1, c2, e0, e1, e2]) rfl ⟨rfl, ?_⟩
    exact ((hb.setCell (p := ⟨w.heap.size + 1, 0, none⟩) (by simp) _).setCell (p := ⟨w.heap.size + 1, 1, none⟩) (by simp) _).setCell (p := ⟨w.heap.size + 1, 2, none⟩) (by simp) _
set_option maxRecDepth 20000 in
set_option maxHeartbeats 1600000 in
theorem pos_add2 (a : Addr) (line col : Int) (s : ByteArray) (hs : s.size ≤ 2000) (w : World) (h1 : 0 ≤ line) (h2 : line ≤ 33554432) (h3 : 0 ≤ col) (h4 : col ≤ 33554432) (hn : 10 ∈ s.data.toList) :
    Calls Tryd.prog 28 #[.agg #[.pointer (some a), .int .i32 line, .int .i32 col], .string s] w fun e w' =>
      e = .returned (.agg #[.pointer (some a), .int .i32 (line + nls s.data.toList), .int .i32 (1 + rc (tailNl s.data.toList))]) ∧ Below w.heap.size w w' := by
  have hrc := rc_le (tailNl s.data.toList)
  have htl := tailNl_len s.data.toList
  have hrl : s.data.toList.length = s.size := by simp
  have hr2 : rc (tailNl s.data.toList) ≤ 2000 := by omega
  have hnp : (0 : Int) < (nls s.data.toList : Int) := by have := nls_pos.2 hn; omega
  have hnl : (nls s.data.toList : Int) ≤ 2000 := by have := nls_le s.data.toList; omega
  have htz : (ByteArray.mk (tailNl s.data.toList).toArray).size ≤ 2000 := by show (tailNl s.data.toList).toArray.size ≤ 2000; rw [List.size_toArray]; omega
  have HN := Lib.hid hn
  have HZ := Lib.hid htz
  clear hn hrc hrl htl htz
  go_enter Tryd.func28, Tryd.ntmps28
  go_wp2_with fail
  refine (count_nl s hs _).mono ?_
  rintro e w' ⟨rfl, rfl⟩
  go_wp2_with fail
  refine (last_index_nl s hs HN.out _).mono ?_
  rintro e w' ⟨⟨k, rfl, hk, hex⟩, rfl⟩
  go_upto_region 6 with fail
  go_cut [2, 4] (fun s2 s4 wx => Boxed w a (line + nls s.data.toList) (1 + rc (tailNl s.data.toList)) s2 s4 wx)
  case first =>
    go_region_with (go_at_call 38; refine (rune_count ⟨(tailNl s.data.toList).toArray⟩ HZ.out _).mono ?_; rintro e w1 ⟨rfl, hb⟩; obtain ⟨hc, hf⟩ := bcell hb)
    all_goals
      go_wp2_with fail
      go_meet
      have e1 : IntKind.i32.wrap (rc (tailNl s.data.toList) : Int) = rc (tailNl s.data.toList) := IntWalk.i32_in _ (by omega)
      have e2 : IntKind.i32.wrap (1 + (rc (tailNl s.data.toList) : Int)) = 1 + rc (tailNl s.data.toList) := IntWalk.i32_in _ (by omega)
      try rw [e1, e2]
      exact boxed_of ((Blk.new _ _ _).alloc _) (Blk.new_at _ _ _ (by simp)) (((Below.refl _ _).alloc (Nat.le_refl _) _).alloc (by simp) _) ⟨hb.os, hb.tape, hb.output, hb.size, hb.block⟩
  case rest =>
    obtain ⟨rfl, rfl, k0, k1, hb⟩ := hcut
    have c0 := k0.cell 0
    have c1 := k0.cell 1
    have c2 := k0.cell 2
    have e0 := k1.cell 0
    have e1 := k1.cell 1
    have e2 := k1.cell 2
    have f0 := k1.frozen 0
    have f1 := k1.frozen 1
    have f2 := k1.frozen 2
    simp only [List.getElem?_toArray, List.getElem?_cons_zero, List.getElem?_cons_succ] at c0 c1 c2 e0 e1 e2
    clear k0 k1
    go_wp2
    refine bodyPost_ret (v := .agg #[.pointer (some a), .int .i32 (line + nls s.data.toList), .int .i32 (1 + rc (tailNl s.data.toList))]) (by simp [results, Tryd.results28, go_sem, c0, c1, c2, e0, e1, e2]) rfl ⟨rfl, ?_⟩
    exact ((hb.setCell (p := ⟨w.heap.size + 1, 0, none⟩) (by simp) _).setCell (p := ⟨w.heap.size + 1, 1, none⟩) (by simp) _).setCell (p := ⟨w.heap.size + 1, 2, none⟩) (by simp) _
end Go.Proofs.YtkddmiamdpbgiaaDoor
