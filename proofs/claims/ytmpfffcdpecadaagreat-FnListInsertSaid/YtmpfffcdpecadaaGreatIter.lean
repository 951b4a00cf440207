/- Going through a list: its iterator. -/
import Derived.Test.YtmpfffcdpecadaaGreatTv
import Derived.Deep.RegionHeld3
import Derived.Defers
namespace Go.Proofs.YtmpfffcdpecadaaGreat
open Go.RowKit
attribute [local go_sem ↓] Go.wp_at_zero Go.wp_at_succ
theorem blk_one {w : World} {g : Nat} {t : TypeId} {a : Value} (h : Blk w g t #[a]) : w.cell? ⟨g, 0, none⟩ = some a ∧ w.frozen? ⟨g, 0, none⟩ = false := ⟨(h.cell 0).trans rfl, h.frozen 0⟩
theorem blk_three {w : World} {g : Nat} {t : TypeId} {a b c : Value} (h : Blk w g t #[a, b, c]) : w.cell? ⟨g, 0, none⟩ = some a ∧ w.cell? ⟨g, 1, none⟩ = some b ∧ w.cell? ⟨g, 2, none⟩ = some c ∧ w.frozen? ⟨g, 0, none⟩ = false ∧ w.frozen? ⟨g, 1, none⟩ = false ∧ w.frozen? ⟨g, 2, none⟩ = false := ⟨(h.cell 0).trans rfl, (h.cell 1).trans rfl, (h.cell 2).trans rfl, h.frozen 0, h.frozen 1, h.frozen 2⟩
/-- A list: its elements' slice, not frozen, so often gone through. -/
def ListB (w : World) (L : Nat) (v : Value) (k : Int) : Prop := Blk w L 90 #[v, .bool false, .int .u32 k]
def IterB (w : World) (it L : Nat) (i : Int) : Prop := Blk w it 244 #[.pointer (some ⟨L, 0, none⟩), .int .i64 i]
theorem list_len (L n c : Nat) (a : Option Addr) (k : Int) (w : World) (h : ListB w L (.slice a n c) k) :
    Calls Tryz.prog 58 #[.pointer (some ⟨L, 0, none⟩)] w fun e w' => e = .returned (.int .i64 (n : Int)) ∧ w = w' := by
  obtain ⟨c0, c1, c2, f0, f1, f2⟩ := blk_three h
  clear h
  go_enter Tryz.func58, Tryz.ntmps58
  go_wp2
  go_ret
  exact ⟨rfl, rfl⟩
theorem new_list (a : Option Addr) (n c : Nat) (w : World) :
    Calls Tryz.prog 33 #[.slice a n c] w fun e w' => e = .returned (.pointer (some ⟨w.heap.size, 0, none⟩)) ∧ w' = w.alloc (.cells #[.slice a n c, .bool false, .int .u32 0] 90) := by
  go_enter Tryz.func33, Tryz.ntmps33
  go_wp2
  go_ret
  exact ⟨rfl, rfl⟩
set_option maxRecDepth 100000 in
set_option maxHeartbeats 4000000 in
theorem iterate_any (L : Nat) (v : Value) (w : World) (h : ListB w L v 0) :
    Calls Tryz.prog 146 #[.pointer (some ⟨L, 0, none⟩)] w fun e w' => ∃ it, e = .returned (.iface 242 (.pointer (some ⟨it, 0, none⟩))) ∧ w.heap.size ≤ it ∧ IterB w' it L 0 ∧ ListB w' L v 1 ∧ Only (· = L) w w' := by
  obtain ⟨c0, c1, c2, f0, f1, f2⟩ := blk_three h
  have HL := Lib.hid (h.lt)
  have HK := Lib.hid (Blk.put h 2 (.int .u32 1))
  have HO := Lib.hid ((Only.refl (· = L) w).setCell (p := ⟨L, 2, none⟩) (.inl (rfl : L = L)) (.int .u32 1))
  clear h
  go_enter Tryz.func146, Tryz.ntmps146
  go_wp2
  go_ret
  refine ⟨_, rfl, ?_, Blk.new_at _ _ _ (by simp), HK.out.alloc _, HO.out.alloc _⟩
  simp
set_option maxRecDepth 100000 in
set_option maxHeartbeats 4000000 in
theorem next_no (it L x n c : Nat) (a : Option Addr) (k : Int) (w : World) (hI : IterB w it L (n : Int)) (hL : ListB w L (.slice a n c) k) :
    Calls Tryz.prog 207 #[.pointer (some ⟨it, 0, none⟩), .pointer (some ⟨x, 0, none⟩)] w fun e w' => e = .returned (.bool false) ∧ Below w.heap.size w w' := by
  have HL := Lib.hid (fun W (h : Below w.heap.size w W) => list_len L n c a k W (hL.below h hL.lt))
  have HI := Lib.hid (fun W (h : Below w.heap.size w W) => (⟨((Blk.below hI h hI.lt).cell 0).trans rfl, ((Blk.below hI h hI.lt).cell 1).trans rfl⟩ : W.cell? ⟨it, 0, none⟩ = some (.pointer (some ⟨L, 0, none⟩)) ∧ W.cell? ⟨it, 1, none⟩ = some (.int .i64 (n : Int))))
  have HD := Lib.hid (Below.refl w.heap.size w).drew
  clear hI hL
  go_enter Tryz.func207, Tryz.ntmps207
  go_wp2_with fail
  go_region_held3 (fun W => W.cell? ⟨it, 0, none⟩ = some (.pointer (some ⟨L, 0, none⟩)) ∧ W.cell? ⟨it, 1, none⟩ = some (.int .i64 (n : Int))) (first | exact HI.out _ HD.out | go_keep)
    (first | (go_at_call 58; refine (HL.out _ HD.out).mono ?_; rintro e w' ⟨rfl, rfl⟩))
  go_wp2
  go_ret
  exact ⟨rfl, HD.out⟩
set_option maxRecDepth 100000 in
set_option maxHeartbeats 4000000 in
theorem next_yes (it L x n c g i : Nat) (k : Int) (u old : Value) (w : World) (hI : IterB w it L (i : Int)) (hL : ListB w L (.slice (some ⟨g, 0, none⟩) n c) k) (hX : Blk w x 49 #[old])
    (hu : w.cell? ⟨g, i, none⟩ = some u) (hone : ∃ t y, u = .iface t y) (hin : i < n) (hn : n ≤ 1000) (h1 : it ≠ x) (h2 : L ≠ x) (h3 : g ≠ x) :
    Calls Tryz.prog 207 #[.pointer (some ⟨it, 0, none⟩), .pointer (some ⟨x, 0, none⟩)] w fun e w' => e = .returned (.bool true) ∧ IterB w' it L ((i + 1 : Nat) : Int) ∧ Blk w' x 49 #[u] ∧ Only (fun b => b = it ∨ b = x) w w' := by
  obtain ⟨t, y, rfl⟩ := hone
  have hitl := hI.lt
  have HL := Lib.hid (fun W (h : Below w.heap.size w W) => list_len L n c (some ⟨g, 0, none⟩) k W (hL.below h hL.lt))
  have HI := Lib.hid hI
  have HX := Lib.hid hX
  have hgl : g < w.heap.size := World.block_lt_of_cell? w _ hu
  have HC : Hid (∀ W, Only (· = x) w W → W.cell? ⟨it, 0, none⟩ = some (.pointer (some ⟨L, 0, none⟩)) ∧ W.cell? ⟨it, 1, none⟩ = some (.int .i64 (i : Int)) ∧ W.cell? ⟨L, 0, none⟩ = some (.slice (some ⟨g, 0, none⟩) n c) ∧ W.cell? ⟨g, i, none⟩ = some (.iface t y)) := fun W h => by
    have k1 : Blk W it _ _ := Blk.only hI h h1
    have k2 : Blk W L _ _ := Blk.only hL h h2
    refine ⟨(k1.cell 0).trans rfl, (k1.cell 1).trans rfl, (k2.cell 0).trans rfl, ?_⟩
    have e : W.cell? ⟨g, i, none⟩ = w.cell? ⟨g, i, none⟩ := by simp only [World.cell?, h.block g hgl h3]
    exact e.trans hu
  have HO0 := Lib.hid (Only.refl (· = x) w).drew
  have HO1 := Lib.hid (Only.refl (· = x) w).drew.drew
  have HO2 := Lib.hid ((Only.refl (· = x) w).setCell (p := ⟨x, 0, none⟩) (.inl (rfl : x = x)) (.iface t y)).drew.drew
  have HD := Lib.hid (Below.refl w.heap.size w).drew
  have HD2 := Lib.hid (Below.refl w.heap.size w).drew.drew
  have d1 : decide ((i : Int) < (n : Int)) = true := by simp; omega
  have d2 : decide (i < n) = true := by simp; omega
  have hx2 := HX.out.drew.drew
  obtain ⟨x0, xf⟩ := blk_one hx2
  clear hI hL hX hx2 hu
  go_enter Tryz.func207, Tryz.ntmps207
  go_wp2_with fail
  go_region_held3 (fun W => W.cell? ⟨it, 0, none⟩ = some (.pointer (some ⟨L, 0, none⟩)) ∧ W.cell? ⟨it, 1, none⟩ = some (.int .i64 (i : Int))) (first | exact ⟨(HC.out _ HO0.out).1, (HC.out _ HO0.out).2.1⟩ | go_keep)
    (first | (go_at_call 58; refine (HL.out _ HD.out).mono ?_; rintro e w' ⟨rfl, rfl⟩))
  go_wp2_with fail
  go_region_held3 (fun W => W.cell? ⟨it, 0, none⟩ = some (.pointer (some ⟨L, 0, none⟩)) ∧ W.cell? ⟨it, 1, none⟩ = some (.int .i64 (i : Int)) ∧ W.cell? ⟨L, 0, none⟩ = some (.slice (some ⟨g, 0, none⟩) n c) ∧ W.cell? ⟨g, i, none⟩ = some (.iface t y)) (first | exact HC.out _ HO1.out | exact HC.out _ HO2.out | go_keep) (fail)
  have k1 : Blk ((w.setCell ⟨x, 0, none⟩ (.iface t y)).drew.drew) it 244 #[.pointer (some ⟨L, 0, none⟩), .int .i64 (i : Int)] := Blk.only HI.out HO2.out h1
  have HK1 := Lib.hid k1
  obtain ⟨i0, i1, j0, j1⟩ : _ ∧ _ ∧ _ ∧ _ := ⟨(k1.cell 0).trans rfl, (k1.cell 1).trans rfl, k1.frozen 0, k1.frozen 1⟩
  clear k1
  go_wp2
  go_ret
  have e1 : ((i : Int) + 1) = ((i + 1 : Nat) : Int) := by omega
  rw [e1]
  refine ⟨rfl, ?_, ?_, ?_⟩
  · exact (Blk.put (Blk.only HI.out ((Only.refl (· = x) w).setCell (p := ⟨x, 0, none⟩) (.inl (rfl : x = x)) (.iface t y)) h1) 1 _).drew.drew
  · exact ((Blk.put HX.out 0 (.iface t y)).far (p := ⟨it, 1, none⟩) (fun e => h1 e.symm) _).drew.drew
  · exact (((Only.refl (fun b => b = it ∨ b = x) w).setCell (p := ⟨x, 0, none⟩) (.inl (.inr rfl)) (.iface t y)).setCell (p := ⟨it, 1, none⟩) (.inl (.inl rfl)) _).drew.drew
end Go.Proofs.YtmpfffcdpecadaaGreat
