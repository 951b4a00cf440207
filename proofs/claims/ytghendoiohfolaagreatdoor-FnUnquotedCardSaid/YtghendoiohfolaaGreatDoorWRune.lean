/- One rune written into a builder of texts. -/
import Derived.Test.YtghendoiohfolaaGreatDoorWByte
import Derived.Test.YtghendoiohfolaaGreatDoorUnqDig
namespace Go.Proofs.YtghendoiohfolaaGreatDoor
set_option linter.unusedSimpArgs false
set_option linter.unusedVariables false
set_option linter.unnecessarySimpa false
open Go.RowKit
theorem rune_of (r : Int) (h0 : 0 ≤ r) (h1 : r ≤ 1114111) (B : Nat) (v : Value) (n : Nat) (xs : List Value) (w : World) (hown : w.ownsRow B 5 1 v n xs) (hlen : n + 4 ≤ 140737488355328) (hBw : B ≤ w.heap.size) :
    Calls Tryz.prog 57 #[v, .int .i32 r] w fun e w' => ∃ v', e = .returned v' ∧ w'.ownsRow B 5 1 v' (n + (Lib.encodeRune r).length) (xs ++ (Lib.encodeRune r).map fun c => Value.int .u8 (c.toNat : Int)) ∧ (∃ o, (w.alloc o).grownBy w' v.ownBlock) := by
  have h := Any.utf8_AppendRune_plain Tryz.lays242 (by kernel_rfl) B v n xs r (by omega) (by omega) w hown hlen hBw
  rw [runeCells_eq r h0 h1] at h
  simp only [List.length_map] at h
  exact h
def WRPost (B b : Nat) (l : List UInt8) (r : Int) (w : World) (e : Ending) (w' : World) : Prop :=
  (∃ n : Int, e = .returned (.tuple #[.int .i64 n, .nilIface])) ∧ SB w' B b (l ++ Lib.encodeRune r) ∧ Below B w w'
set_option maxHeartbeats 2000000 in
set_option maxRecDepth 100000 in
theorem write_rune (B b : Nat) (l : List UInt8) (r : Int) (h0 : 0 ≤ r) (h1 : r ≤ 1114111) (w : World) (h : SB w B b l) (hlen : l.length + 4 ≤ 140737488355328) (hBw : B ≤ w.heap.size) :
    Calls Tryz.prog 37 #[.pointer (some ⟨b, 0, none⟩), .int .i32 r] w (WRPost B b l r w) := by
  have hpos := h0
  go_enter Tryz.func37, Tryz.ntmps37
  go_wp2_with fail
  refine (check_any2 B b l _ h).mono ?_
  rintro e w1 ⟨rfl, h2, hb1, -, -, hs1⟩
  obtain ⟨hB, v, hbk, hown, hne⟩ := h2
  have c1 : w1.cell? ⟨b, 1, none⟩ = some v := by rw [Lib.cell_of_heap hbk]; rfl
  have hbl : (Lib.byteCells l).length = l.length := Lib.byteCells_length l
  have hlt : b < w1.heap.size := by
    rcases Nat.lt_or_ge b w1.heap.size with h' | h'
    · exact h'
    · simp [Array.getElem?_eq_none h'] at hbk
  obtain ⟨ao, n0, cap0, hv⟩ : ∃ ao n' cap, v = .slice ao n' cap := by
    rcases hown.2 with ⟨hv, _⟩ | ⟨g, cap, cur, hv, _⟩
    · exact ⟨_, _, _, hv⟩
    · exact ⟨_, _, _, hv⟩
  have HV := Lib.hid hv
  subst hv
  have HBK := Lib.hid hbk
  have HOWN := Lib.hid hown
  have HNE := Lib.hid hne
  have HBL := Lib.hid hbl
  have HB1 := Lib.hid hb1
  have HS1 := Lib.hid hs1
  have HBW : Hid (B ≤ w1.heap.size) := by rw [hs1]; exact hBw
  have HLEN : Hid ((Lib.byteCells l).length + 4 ≤ 140737488355328) := by rw [hbl]; exact hlen
  clear hbk hown hne hbl hb1 hs1
  go_wp2_with fail
  refine (rune_of r h0 h1 B _ (Lib.byteCells l).length _ _ HOWN.out HLEN.out HBW.out).mono ?_
  rintro e w2 ⟨v', rfl, hown', o, hg⟩
  have hb2 : w2.heap[b]? = some (.cells #[.pointer (some ⟨b, 0, none⟩), .slice ao n0 cap0] 65 (0, 0)) := by
    rw [hg.block b (by simp; omega) (fun e => HNE.out e.symm)]
    exact (Below.heap_alloc w1 o b hlt).trans HBK.out
  have d1 : w2.cell? ⟨b, 1, none⟩ = some (.slice ao n0 cap0) := by rw [Lib.cell_of_heap hb2]; rfl
  have f1 : w2.frozen? ⟨b, 1, none⟩ = false := Lib.frozen_of_heap hb2 1
  have HB2 : Hid (Below B w1 w2) := ((Below.refl B w1).alloc HBW.out o).grown hg (by have := HBW.out; simp; omega) (fun k hk => (HOWN.out.lt k hk).1)
  obtain ⟨ao2, n2, cap2, hv2⟩ : ∃ ao n' cap, v' = .slice ao n' cap := by
    rcases hown'.2 with ⟨hv, _⟩ | ⟨g, cap, cur, hv, _⟩
    · exact ⟨_, _, _, hv⟩
    · exact ⟨_, _, _, hv⟩
  subst hv2
  have HBK2 := Lib.hid hb2
  have HOWN2 := Lib.hid hown'
  clear hb2 hown' hg
  go_wp2
  go_ret2
  refine ⟨⟨_, rfl⟩, .inr ?_, (HB1.out.trans HB2.out).setCell (p := ⟨b, 1, none⟩) hB _⟩
  have e : Lib.byteCells (l ++ Lib.encodeRune r) = Lib.byteCells l ++ (Lib.encodeRune r).map fun c => Value.int .u8 (c.toNat : Int) := by simp [Lib.byteCells]
  rw [e]
  exact Lib.BuilderAt.put (T := 65) (e := 5) hB HBK2.out (bs' := Lib.byteCells l ++ (Lib.encodeRune r).map fun c => Value.int .u8 (c.toNat : Int)) (by rw [List.length_append, List.length_map]; exact HOWN2.out) (by decide)
end Go.Proofs.YtghendoiohfolaaGreatDoor
