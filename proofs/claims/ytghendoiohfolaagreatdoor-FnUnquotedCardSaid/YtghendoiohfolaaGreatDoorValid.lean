/- The walk of the reference's Valid: a text with a mark in the place of each byte that is no part of a rune. -/
import Derived.Test.YtghendoiohfolaaGreatDoorTabs
import Derived.Test.YtghendoiohfolaaGreatDoorPlacePlain
import Derived.Test.YtghendoiohfolaaGreatDoorOwn
import Derived.WalkSpells
import Derived.WalkLawsBesides
import Derived.Lib.AppendStr
import Derived.Deep.DeepCutAuto
import Derived.Lib.FieldsU
namespace Go.Proofs.YtghendoiohfolaaGreatDoor
set_option linter.unusedSimpArgs false
set_option linter.unusedVariables false
set_option linter.unnecessarySimpa false
open Go.RowKit
theorem Tryz.infoByte : (Tryz.prog.info? 5).map (fun i => (i.zero, i.size, i.bytes)) = some (some (.int .u8 0), 1, 1) := by kernel_rfl
def ValidPost (n : Nat) (w : World) (e : Ending) (w' : World) : Prop := ∃ v : ByteArray, e = .returned (.string v) ∧ Good v.data.toList ∧ v.size = n ∧ Below w.heap.size w w'
/-- What stands at a place: the decoder's rune and width there, and what is taken over. -/
theorem piece_at (s : ByteArray) (k : Nat) (hk : k < s.size) (hgood : ¬ ((Utf8.decode s k).1 = 65533 ∧ (Utf8.decode s k).2 < 2)) :
    Solid (s.extract k (k + (Utf8.decode s k).2)).data.toList ∧ k + (Utf8.decode s k).2 ≤ s.size ∧ (s.extract k (k + (Utf8.decode s k).2)).size = (Utf8.decode s k).2 := by
  have hl : s.data.toList.length = s.size := by simp
  have hne : s.data.toList.drop k ≠ [] := by
    intro e
    have := congrArg List.length e
    rw [List.length_drop] at this
    simp at this
    omega
  have h := solid_piece hne (by rw [Lib.decodeL_drop]; exact hgood)
  rw [Lib.decodeL_drop, List.length_drop] at h
  refine ⟨?_, by omega, by simp; omega⟩
  rw [extract_list]
  show Solid ((s.data.toList.take (k + (Utf8.decode s k).2)).drop k)
  rw [List.drop_take, show k + (Utf8.decode s k).2 - k = (Utf8.decode s k).2 by omega]
  exact h.1
theorem width_one (s : ByteArray) (k : Nat) (hk : k < s.size) : 1 ≤ (Utf8.decode s k).2 := Lib.decode_width_pos s k hk
theorem rest_decode (s : ByteArray) (k : Nat) : Utf8.decode (s.extract k s.size) 0 = Utf8.decode s k := by
  rw [← Lib.decodeL_drop, ← Lib.decodeL_drop, extract_list, take_all s s.size (Nat.le_refl _)]
  simp
theorem OwnB.moreS {w : World} {B : Nat} {v : Value} {l : List UInt8} {s : ByteArray} (h : w.ownsRow B 5 1 v (l.length + s.size) (l.map (fun c => Value.int .u8 (c.toNat : Int)) ++ Lib.strCells s)) : OwnB 5 w B v (l ++ s.data.toList) := by
  unfold OwnB
  have e : (l ++ s.data.toList).length = l.length + s.size := by simp
  rw [e, List.map_append]
  exact h
set_option maxRecDepth 20000 in
set_option maxHeartbeats 1600000 in
theorem valid_any (s : ByteArray) (hs : s.size ≤ 1000) (w : World) (hT : Tabs w) :
    Calls Tryz.prog 8 #[.string s] w (ValidPost s.size w) := by
  obtain ⟨i0, hi, hz0, hz1, hz2⟩ := info_parts Tryz.infoByte
  have HT := Lib.hid hT
  clear hT
  go_enter Tryz.func8, Tryz.ntmps8
  go_wp2
  go_loopw [3, 4] (fun v iv wr => ∃ (k : Nat) (acc : List UInt8), k ≤ s.size ∧ iv = .int .i64 k ∧ acc.length = k ∧ Good acc ∧ OwnB 5 wr w.heap.size v acc ∧ Below w.heap.size w wr)
    (fun _ iv _ => s.size - (intOf iv).toNat)
  case atStart => exact ⟨0, [], Nat.zero_le _, rfl, rfl, good_nil, OwnB.nil _ _, Below.refl _ _⟩
  case round =>
    obtain ⟨k, acc, hk, rfl, hacc, hgood, hown, hb⟩ := hrel
    by_cases hlt : k < s.size
    · have HA := Lib.hid hacc
      have HG := Lib.hid hgood
      have hz := hb.size
      have hal : acc.length ≤ 1000 := by omega
      have hw1 := width_one s k hlt
      have HR := Lib.hid (rest_decode s k)
      have HTr := Lib.hid (tabs_below HT.out hb)
      clear hacc hgood
      go_wp2_with fail
      refine (decode_rest _ _ HTr.out (by simp; omega)).mono ?_
      rw [HR.out]
      rintro e w1 ⟨rfl, hb1⟩
      have hown1 : OwnB 5 w1 w.heap.size u3 acc := own_below hown hb1
      have hbw1 := hb.trans (hb1.mono hz)
      have hz1' := hbw1.size
      clear hown hb hb1 hz
      by_cases hbad : (Utf8.decode s k).1 = 65533 ∧ (Utf8.decode s k).2 < 2
      · obtain ⟨q1, q2⟩ := hbad
        have q3 : (((Utf8.decode s k).1 : Int) == 65533) = true := by rw [q1]; rfl
        have q4 : ((Utf8.decode s k).2 : Int) < 2 := by omega
        have Q := Lib.hid (show (Utf8.decode s k).2 = 1 by omega)
        clear q1
        go_wp2_with (at_builtin; refine wpList_append_one rfl (.tmp 24) (.tmp 25) 24 rfl _ w.heap.size 5 i0 _ 1 Tryz.underlying24 hi hz0 hz1 hz2 rfl _ acc.length _ hown1 rfl (.int .u8 63) rfl rfl rfl (by unfold maxLen; omega) (by omega) hz1' ?_)
        intro v' w2 hown2 hb2 _
        have hown3 : OwnB 5 w2 w.heap.size v' (acc ++ [63]) := OwnB.more hown2
        have hbn := hbw1.trans hb2
        clear hown1 hown2 hb2 hbw1 hz1'
        rw [Q.out] at *
        go_wp2
        go_roundw
        case rel => exact ⟨k + 1, acc ++ [63], by omega, by go_num, by simp [HA.out], good_snoc HG.out solid_mark, hown3, hbn⟩
        case measure => simp [intOf]; omega
      · obtain ⟨p1, p2, p3⟩ := piece_at s k hlt hbad
        have P1 := Lib.hid p1
        have P3 := Lib.hid p3
        have ho := hown1
        unfold OwnB at ho
        have hp3 : (s.extract k (k + (Utf8.decode s k).2)).size ≤ 1000 := by omega
        have p4 : (0 : Int) ≤ (Utf8.decode s k).2 := by omega
        clear p1 p3 hown1
        rcases (show ((((Utf8.decode s k).1 : Int) == 65533) = false) ∨ ((((Utf8.decode s k).1 : Int) == 65533) = true ∧ ¬ ((Utf8.decode s k).2 : Int) < 2) by
            by_cases hr : (Utf8.decode s k).1 = 65533
            · exact .inr ⟨by rw [hr]; rfl, by omega⟩
            · exact .inl (by rw [beq_eq_false_iff_ne]; omega)) with q1 | ⟨q1, q2⟩
        all_goals
          clear hbad
          go_wp2_with (at_builtin; refine Lib.wpList_append_own_string _ rfl (.tmp 27) (.tmp 33) 24 9 rfl w.heap.size 5 i0 Tryz.underlying24 Tryz.underlying9 hi hz0 hz1 hz2 _ acc.length _ rfl ho (s.extract k (k + (Utf8.decode s k).2)) rfl (by unfold maxLen; omega) (by omega) hz1' ?_)
          intro v' w2 hown2 hg2 _
          have hown3 : OwnB 5 w2 w.heap.size v' (acc ++ (s.extract k (k + (Utf8.decode s k).2)).data.toList) := OwnB.moreS (by rw [P3.out]; exact hown2)
          have hbn := hbw1.grown hg2 hz1' (fun x hx => (ho.lt x hx).1)
          clear ho hown2 hg2 hbw1 hz1'
          go_wp2
          go_roundw
          case rel => exact ⟨k + (Utf8.decode s k).2, _, by omega, by go_num, by rw [List.length_append, HA.out]; have := P3.out; simp at this ⊢; omega, good_snoc HG.out P1.out, hown3, hbn⟩
          case measure => simp [intOf]; omega
    · have hconv := hown.text 24 9 Tryz.underlying24 Tryz.underlying5 Tryz.underlying9
      have HA := Lib.hid hacc
      have HG := Lib.hid hgood
      clear hacc hgood hown
      go_wp2
      go_ret
      exact ⟨⟨acc.toArray⟩, rfl, HG.out, by show acc.toArray.size = s.size; rw [List.size_toArray]; have := HA.out; omega, hb⟩
end Go.Proofs.YtghendoiohfolaaGreatDoor
