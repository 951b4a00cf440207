/- The walk of laws.FnPointOrds. -/
import Derived.Test.YtkddmiamdpbgiaaDoorPointsC
import Derived.Laws.RangeString
import Derived.Laws.RangeAny
namespace Go.Proofs.YtkddmiamdpbgiaaDoor
open Go.RowKit
set_option maxRecDepth 20000 in
set_option maxHeartbeats 1600000 in
theorem points_law (s : ByteArray) (w : World) (hs : s.size ≤ maxLen) (hT : Tabs w) :
    Calls Tryd.prog 6 #[.string s] w fun e w' => e = .returned (.bool true) ∧ Below w.heap.size w w' := by
  unfold maxLen at hs
  have HT := Lib.hid hT
  clear hT
  by_cases hs1 : 2147483647 < s.size
  · go_enter Tryd.func6, Tryd.ntmps6
    go_wp2
    go_ret
    exact ⟨rfl, Below.refl _ _⟩
  · have hse : (s.extract 0 (min (s.size : Int) 200).toNat).size ≤ 200 := by simp; omega
    have a1 : 0 ≤ min (s.size : Int) 200 := by omega
    have a2 : min (s.size : Int) 200 ≤ s.size := by omega
    have HSE := Lib.hid hse
    clear hse
    go_enter Tryd.func6, Tryd.ntmps6
    go_wp2_with fail
    refine (valid_any (s.extract 0 (min (s.size : Int) 200).toNat) (Nat.le_trans HSE.out (by omega)) _ HT.out).mono ?_
    rintro e w1 ⟨v, rfl, _, hv, hb⟩
    have hvs : v.size ≤ 200 := by have := HSE.out; omega
    have HT1 := Lib.hid (tabs_below HT.out hb)
    have HB := Lib.hid hb
    clear hv hb
    go_wp2_with fail
    obtain ⟨t, ht⟩ : ∃ t : ByteArray, t = v ++ ByteArray.mk #[97] := ⟨_, rfl⟩
    have hts : t.size ≤ 1000 := by
      have h1 : t.size = v.size + 1 := by rw [ht, ByteArray.size_append]; rfl
      omega
    rw [← ht]
    clear ht
    refine (point_ords t hts _ HT1.out).mono ?_
    rintro e w2 ⟨v2, rfl, hown, hb2⟩
    obtain ⟨A, c, rfl, hc⟩ := hown.at_
    have HC := Lib.hid hc
    have HB2 := Lib.hid (HB.out.trans (hb2.mono HB.out.size))
    clear hown hb2 hc
    have hlen : (runesOf t).length ≤ 1000 := Nat.le_trans (runesOf_len t) hts
    have hrd : Hid (pts t t.size 0 = runesOf t) := rfl
    generalize runesOf t = l at *
    go_wp2_with fail
    go_loopw [5, 7] (fun i _ wr => ∃ (k pos f : Nat), wr = w2.iter t pos ∧ i = .int .i64 k ∧ Hid (pts t f pos = l.drop k) ∧ t.size - pos ≤ f ∧ pos ≤ t.size ∧ k ≤ l.length) (fun _ _ wr => t.size - wr.iterPos w2.heap.size)
    case atStart => exact ⟨0, 0, t.size, rfl, rfl, hrd.out, by omega, Nat.zero_le _, Nat.zero_le _⟩
    case round =>
      obtain ⟨k, pos, f, rfl, rfl, hp, hf, hpos, hk⟩ := hrel
      by_cases hlt : pos < t.size
      · obtain ⟨f', rfl, hpt, hf'⟩ := pts_more hlt hf
        have hp' := hp.out
        rw [hpt] at hp'
        have hkl : k < l.length := by
          have := congrArg List.length hp'
          simp at this
          omega
        have hkx : l[k]? = some ((Utf8.decode t pos).1 : Int) := by
          have := congrArg List.head? hp'
          rw [List.head?_drop] at this
          simpa using this.symm
        have hdr : pts t f' (pos + (Utf8.decode t pos).2) = l.drop (k + 1) := by
          have := congrArg List.tail hp'
          rw [List.tail_drop] at this
          simpa using this
        obtain ⟨g, rfl, hg⟩ := HC.out k _ hkx
        have hgi : (w2.iter t (pos + (Utf8.decode t pos).2)).cell? (g.add k) = some (.int .i64 (Utf8.decode t pos).1) :=
          (World.cell?_of_block (w := w2) (Below.heap_alloc w2 _ _ (World.block_lt_of_cell? w2 _ hg))).trans hg
        have hw2 := width_le t pos hlt
        have hw1 := Lib.decode_width_pos t pos hlt
        have hnx : ∀ ty, (Instr.next (.pointer (some ⟨w2.heap.size, 0, none⟩)) true ty).run Tryd.prog (w2.iter t pos) = _ := fun ty => run_next_any w2 t pos ty hlt
        have HDR := Lib.hid hdr
        clear hp' hpt hkx hdr hp hg
        have hr2 := decode_le t pos
        go_wp2
        go_roundw
        case rel => exact ⟨k + 1, pos + (Utf8.decode t pos).2, f', rfl, by go_num, HDR.out, hf', hw2, hkl⟩
        case measure => simp; omega
      · have hkl : k = l.length := by
          have := congrArg List.length hp.out
          rw [pts_end hlt] at this
          simp at this
          omega
        subst hkl
        have hnx : ∀ ty, (Instr.next (.pointer (some ⟨w2.heap.size, 0, none⟩)) true ty).run Tryd.prog (w2.iter t pos) = _ := fun ty => run_next_end w2 t pos ty hlt
        clear hp
        go_wp2
        go_ret
        exact ⟨rfl, HB2.out.alloc HB2.out.size _⟩
end Go.Proofs.YtkddmiamdpbgiaaDoor
