/- The walk of laws.FnPlaceParts: the place behind two texts. -/
import Derived.Test.YtkddmiamdpbgiaaDoorPosAdd
import Derived.BigQuiet
import Derived.Deep.QuietTactic
namespace Go.Proofs.YtkddmiamdpbgiaaDoor
open Go.RowKit
theorem pos_any (a : Addr) (line col : Int) (s : ByteArray) (hs : s.size ≤ 2000) (w : World) (h1 : 0 ≤ line) (h2 : line ≤ 33554432) (h3 : 0 ≤ col) (h4 : col ≤ 33554432) :
    Calls Tryd.prog 28 #[.agg #[.pointer (some a), .int .i32 line, .int .i32 col], .string s] w fun e w' =>
      e = .returned (.agg #[.pointer (some a), .int .i32 (pbl line s.data.toList), .int .i32 (pbc col s.data.toList)]) ∧ Below w.heap.size w w' := by
  unfold pbl pbc
  by_cases h : 0 < nls s.data.toList
  · rw [if_pos h]
    exact pos_add2 a line col s hs w h1 h2 h3 h4 (nls_pos.1 h)
  · have h0 : nls s.data.toList = 0 := by omega
    rw [if_neg h, h0]
    have := pos_add a line col s hs w h1 h2 h3 h4 h0
    simpa using this
set_option maxHeartbeats 800000 in
theorem make_pos (a : Addr) (line col : Int) (w : World) :
    Calls Tryd.prog 18 #[.pointer (some a), .int .i32 line, .int .i32 col] w fun e w' => e = .returned (.agg #[.pointer (some a), .int .i32 line, .int .i32 col]) ∧ Below w.heap.size w w' := by
  go_enter Tryd.func18, Tryd.ntmps18
  go_wp2
  refine bodyPost_ret (v := .agg #[.pointer (some a), .int .i32 line, .int .i32 col]) (by simp [results, Tryd.results18, go_sem]) rfl ⟨rfl, ?_⟩
  exact (Below.refl _ _).alloc (Nat.le_refl _) _
set_option maxHeartbeats 800000 in
theorem zz_add (a : Addr) (line col : Int) (s : ByteArray) (hs : s.size ≤ 2000) (w : World) (h1 : 0 ≤ line) (h2 : line ≤ 33554432) (h3 : 0 ≤ col) (h4 : col ≤ 33554432) :
    Calls Tryd.prog 17 #[.agg #[.pointer (some a), .int .i32 line, .int .i32 col], .string s] w fun e w' =>
      e = .returned (.agg #[.pointer (some a), .int .i32 (pbl line s.data.toList), .int .i32 (pbc col s.data.toList)]) ∧ Below w.heap.size w w' := by
  go_enter Tryd.func17, Tryd.ntmps17
  go_wp2_with fail
  refine (pos_any a line col s hs _ h1 h2 h3 h4).mono ?_
  rintro e w1 ⟨rfl, hb⟩
  have k1 : Blk w1 (w.heap.size + 1) 38 #[.pointer none, .int .i32 0, .int .i32 0] := (Blk.new_at (w.alloc _) 38 _ (by simp)).below hb (by simp)
  have hbn : Below w.heap.size w w1 := (((Below.refl _ w).alloc (Nat.le_refl _) _).alloc (by simp) _).trans (hb.mono (by simp; omega))
  have e0 := k1.cell 0
  have e1 := k1.cell 1
  have e2 := k1.cell 2
  have f0 := k1.frozen 0
  have f1 := k1.frozen 1
  have f2 := k1.frozen 2
  simp only [List.getElem?_toArray, List.getElem?_cons_zero, List.getElem?_cons_succ] at e0 e1 e2
  clear k1 hb
  go_wp2
  refine bodyPost_ret (v := .agg #[.pointer (some a), .int .i32 (pbl line s.data.toList), .int .i32 (pbc col s.data.toList)]) (by simp [results, Tryd.results17, go_sem, e0, e1, e2]) rfl ⟨rfl, ?_⟩
  exact ((hbn.setCell (p := ⟨w.heap.size + 1, 0, none⟩) (by simp) _).setCell (p := ⟨w.heap.size + 1, 1, none⟩) (by simp) _).setCell (p := ⟨w.heap.size + 1, 2, none⟩) (by simp) _
set_option maxHeartbeats 800000 in
theorem place_behind (line col : Int) (s : ByteArray) (hs : s.size ≤ 2000) (w : World) (h1 : 0 ≤ line) (h2 : line ≤ 33554432) (h3 : 0 ≤ col) (h4 : col ≤ 33554432) :
    Calls Tryd.prog 8 #[.int .i32 line, .int .i32 col, .string s] w fun e w' =>
      e = .returned (.tuple #[.int .i32 (pbl line s.data.toList), .int .i32 (pbc col s.data.toList)]) ∧ Below w.heap.size w w' := by
  go_enter Tryd.func8, Tryd.ntmps8
  go_wp2_with fail
  refine (make_pos _ line col _).mono ?_
  rintro e w1 ⟨rfl, hb1⟩
  have hbn1 : Below w.heap.size w w1 := ((Below.refl _ w).alloc (Nat.le_refl _) _).trans (hb1.mono (by simp))
  clear hb1
  go_wp2_with fail
  refine (zz_add _ line col s hs _ h1 h2 h3 h4).mono ?_
  rintro e w2 ⟨rfl, hb2⟩
  have hbn2 : Below w.heap.size w w2 := hbn1.trans (hb2.mono hbn1.size)
  clear hb2 hbn1
  go_wp2_with fail
  go_quiet (fail)
  go_wp2
  go_ret2
  exact ⟨rfl, below_dn (hbn2.alloc hbn2.size _) _⟩
theorem mask_bd (a : Int) : 0 ≤ bits .and .i32 a 16777215 ∧ bits .and .i32 a 16777215 ≤ 16777215 := by
  have h : (BitVec.ofInt 32 a &&& BitVec.ofInt 32 16777215).toNat ≤ 16777215 := by
    rw [BitVec.toNat_and]
    exact Nat.le_trans Nat.and_le_right (by decide)
  have e : bits .and .i32 a 16777215 = IntKind.i32.wrap ((BitVec.ofInt 32 a &&& BitVec.ofInt 32 16777215).toNat : Int) := rfl
  rw [e, IntWalk.i32_in _ (by omega)]
  omega
theorem pb_bd (line col : Int) (s : ByteArray) (hs : s.size ≤ 1000) (h1 : 1 ≤ line) (h2 : line ≤ 16777216) (h3 : 1 ≤ col) (h4 : col ≤ 16777216) :
    1 ≤ pbl line s.data.toList ∧ pbl line s.data.toList ≤ 33554432 ∧ 1 ≤ pbc col s.data.toList ∧ pbc col s.data.toList ≤ 33554432 ∧ line ≤ pbl line s.data.toList := by
  have hl : s.data.toList.length = s.size := by simp
  have e1 := nls_le s.data.toList
  have e2 := rc_le s.data.toList
  have e3 := rc_le (tailNl s.data.toList)
  have e4 := tailNl_len s.data.toList
  unfold pbl pbc
  split <;> omega
def ValidLe (w : World) (e : Ending) (w' : World) : Prop := ∃ v : ByteArray, e = .returned (.string v) ∧ Good v.data.toList ∧ v.size ≤ 1000 ∧ Below w.heap.size w w'
theorem valid_le (s : ByteArray) (hs : s.size ≤ 1000) (w : World) (hT : Tabs w) : Calls Tryd.prog 7 #[.string s] w.drew (ValidLe w) :=
  (valid_any s hs w.drew hT).mono fun _ _ ⟨v, h1, h2, h3, hb⟩ => ⟨v, h1, h2, by omega, ⟨hb.os, hb.tape, hb.output, hb.size, hb.block⟩⟩
set_option maxRecDepth 20000 in
set_option maxHeartbeats 1600000 in
theorem place_law (line col : Int) (s t : ByteArray) (w : World) (_ : (Lit.int .i32 line).wf = true) (_ : (Lit.int .i32 col).wf = true) (hs : s.size ≤ maxLen) (ht : t.size ≤ maxLen) (hT : Tabs w) :
    Calls Tryd.prog 3 #[.int .i32 line, .int .i32 col, .string s, .string t] w fun e w' => e = .returned (.bool true) ∧ Below w.heap.size w w' := by
  unfold maxLen at hs ht
  have HT := Lib.hid hT
  clear hT
  by_cases hs1 : 2147483647 < s.size
  · go_enter Tryd.func3, Tryd.ntmps3
    go_wp2
    go_ret
    exact ⟨rfl, Below.refl _ _⟩
  · by_cases ht1 : 2147483647 < t.size
    · go_enter Tryd.func3, Tryd.ntmps3
      go_wp2
      all_goals
        go_ret
        exact ⟨rfl, Below.refl _ _⟩
    · obtain ⟨m1, m2⟩ := mask_bd line
      obtain ⟨m3, m4⟩ := mask_bd col
      go_enter Tryd.func3, Tryd.ntmps3
      go_upto_region 4 with fail
      generalize bits .and .i32 line 16777215 = x at *
      generalize bits .and .i32 col 16777215 = y at *
      go_cut [2, 3] (fun s2 s3 wx => ∃ v u : ByteArray, s2 = .string v ∧ s3 = .string u ∧ Good v.data.toList ∧ v.size ≤ 1000 ∧ u.size ≤ 1000 ∧ Below w.heap.size w wx)
      case first =>
        have hse : (s.extract 0 (min (s.size : Int) 1000).toNat).size ≤ 1000 := by simp; omega
        have hue : (t.extract 0 (min (t.size : Int) 1000).toNat).size ≤ 1000 := by simp; omega
        have a1 : 0 ≤ min (s.size : Int) 1000 := by omega
        have a2 : min (s.size : Int) 1000 ≤ s.size := by omega
        have a3 : 0 ≤ min (t.size : Int) 1000 := by omega
        have a4 : min (t.size : Int) 1000 ≤ t.size := by omega
        have HSE := Lib.hid hse
        have HUE := Lib.hid hue
        clear hse hue hs ht hs1 ht1
        go_region_with (go_at_call 7; refine (valid_le (s.extract 0 (min (s.size : Int) 1000).toNat) HSE.out _ HT.out).mono ?_; rintro e w1 ⟨v, rfl, hg, hv, hb⟩)
        all_goals
          go_wp2_with fail
          go_meet
          exact ⟨v, (t.extract 0 (min (t.size : Int) 1000).toNat), rfl, rfl, hg, hv, HUE.out, hb⟩
      case rest =>
        obtain ⟨v, u, rfl, rfl, hg, hv, hu, hb⟩ := hcut
        have HG := Lib.hid hg
        clear hg hs ht hs1 ht1
        have hvl : v.data.toList.length = v.size := by simp
        obtain ⟨p1, p2, p3, p4, p5⟩ := pb_bd (1 + x) (1 + y) v hv (by omega) (by omega) (by omega) (by omega)
        have E1 := Lib.hid (pb_line (1 + x) v.data.toList u.data.toList)
        have E2 := Lib.hid (pb_col (1 + y) u.data.toList HG.out)
        have hline : (1 + x : Int) ≤ pbl (pbl (1 + x) v.data.toList) u.data.toList := by
          have h2 : pbl (1 + x) v.data.toList ≤ pbl (pbl (1 + x) v.data.toList) u.data.toList := by
            show _ ≤ pbl (1 + x) v.data.toList + (nls u.data.toList : Int)
            omega
          omega
        clear hvl
        go_wp2_with fail
        refine (place_behind (1 + x) (1 + y) (v ++ u) (by simp; omega) _ (by omega) (by omega) (by omega) (by omega)).mono ?_
        have e0 : (v ++ u).data.toList = v.data.toList ++ u.data.toList := by simp
        rw [e0, E1.out, E2.out]
        rintro e w1 ⟨rfl, hb1⟩
        have hbn1 := hb.trans (hb1.mono hb.size)
        clear hb hb1 e0
        go_wp2_with fail
        refine (place_behind (1 + x) (1 + y) v (by omega) _ (by omega) (by omega) (by omega) (by omega)).mono ?_
        rintro e w2 ⟨rfl, hb2⟩
        have hbn2 := hbn1.trans (hb2.mono hbn1.size)
        clear hbn1 hb2
        go_wp2_with fail
        refine (place_behind (pbl (1 + x) v.data.toList) (pbc (1 + y) v.data.toList) u (by omega) _ (by omega) (by omega) (by omega) (by omega)).mono ?_
        rintro e w3 ⟨rfl, hb3⟩
        have hbn3 := hbn2.trans (hb3.mono hbn2.size)
        clear hbn2 hb3
        go_wp2
        go_ret
        exact ⟨rfl, hbn3⟩
end Go.Proofs.YtkddmiamdpbgiaaDoor
