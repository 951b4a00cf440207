/- A text split at each place of a part: the package's own loops. -/
import Derived.Test.YteibkaonofkcbaaGreatDoorIdxL
import Derived.Test.YteibkaonofkcbaaGreatDoorTxts
import Derived.Deep.LoopGhost
namespace Go.Proofs.YteibkaonofkcbaaGreatDoor
open Go.RowKit
/-- A split: a row of its own whose texts, joined, are the text. -/
def SplitPost (s p : ByteArray) (m : Nat) (w : World) (e : Ending) (w' : World) : Prop :=
  ∃ v ts, e = .returned v ∧ RowT w' w.heap.size v ts ∧ joinL p.data.toList ts = s.data.toList ∧ ts ≠ [] ∧ ts.length ≤ m ∧ Below w.heap.size w w'
theorem split_step {h l p : List UInt8} {s : List UInt8} {i : Nat} (hh : h ++ l = s) (hat : (l.drop i).take p.length = p) : (h ++ (l.take i ++ p)) ++ l.drop (i + p.length) = s := by
  rw [← hh]
  have e : l.drop i = p ++ l.drop (i + p.length) := by
    have h1 := List.take_append_drop p.length (l.drop i)
    rw [hat, List.drop_drop] at h1
    exact h1.symm
  have e2 := List.take_append_drop i l
  rw [e] at e2
  rw [List.append_assoc, List.append_assoc]
  exact congrArg _ e2
theorem ext_take (l : ByteArray) (i : Nat) : (l.extract 0 i).data.toList = l.data.toList.take i := by
  simp
theorem ext_drop (l : ByteArray) (i : Nat) : (l.extract i l.size).data.toList = l.data.toList.drop i := by
  simp
  rw [List.take_of_length_le (by simp)]
set_option maxRecDepth 20000 in
set_option maxHeartbeats 4000000 in
theorem zz_split (s p : ByteArray) (w : World) (hs : s.size ≤ 1000) (hp : p.size ≤ 1000) (hp1 : 1 ≤ p.size) :
    Calls Tryz.prog 35 #[.string s, .string p] w (SplitPost s p (s.size + 1) w) := by
  have HPL : Hid (p.data.toList.length = p.size) := by unfold Hid; simp
  go_enter Tryz.func35, Tryz.ntmps35
  go_wp2_with fail
  go_loopg [0, 4, 5, 6] s.size (fun k uv _ ov _ wr => ∃ (u : ByteArray) (ts : List ByteArray), uv = .string u ∧ u.size = k ∧ u.size ≤ 1000 ∧ Hid (RowT wr w.heap.size ov ts) ∧ Hid (headL p.data.toList ts ++ u.data.toList = s.data.toList ∧ ts.length + u.size ≤ s.size) ∧ Hid (Below w.heap.size w wr))
  case atStart => exact ⟨s, [], rfl, rfl, hs, RowT.nil _ _, ⟨rfl, by simp⟩, Below.refl _ _⟩
  case round =>
    obtain ⟨u, ts, rfl, rfl, hu, hrow, hjn, hbel⟩ := hrel
    have hts : ts.length ≤ 10000 := by have := hjn.out.2; omega
    go_wp2_with fail
    refine (zz_index u p hu hp hp1 _).mono ?_
    rintro e w' ⟨r, rfl, hr, rfl⟩
    rcases hr with ⟨rfl, _⟩ | ⟨i, rfl, hil, _, hat⟩
    · go_wp2_with (at_builtin; refine wpList_append_s rfl (.tmp 12) (.tmp 14) rfl _ w.heap.size _ ts hrow.out rfl u rfl rfl hts hbel.out.size ?_; intro v6 w6 hr6 hb6)
      have HB6 := Lib.hid (hbel.out.trans hb6)
      go_ret
      exact ⟨v6, ts ++ [u], rfl, hr6, by rw [joinL_head]; exact hjn.out.1, by simp, by have := hjn.out.2; simp; omega, HB6.out⟩
    · have hil2 : i + p.size ≤ u.size := by have := HPL.out; simp at hil; omega
      obtain ⟨j, hj⟩ : ∃ j : Nat, (i : Int) + (p.size : Int) = (j : Int) := ⟨i + p.size, by omega⟩
      have HJ : Hid (i + p.size = j) := by unfold Hid; omega
      have hd : decide ((i : Int) < 0) = false := by simp
      have hiu : (i : Int) ≤ (u.size : Int) := by omega
      have hi2 : i ≤ u.size := by omega
      have hju : (j : Int) ≤ (u.size : Int) := by omega
      have hju2 : j ≤ u.size := by omega
      have HN : Hid (headL p.data.toList (ts ++ [u.extract 0 i]) ++ (u.extract j u.size).data.toList = s.data.toList ∧ (ts ++ [u.extract 0 i]).length + (u.extract j u.size).size ≤ s.size) := by
        refine ⟨?_, ?_⟩
        · rw [headL_snoc, ext_take, ext_drop, ← HJ.out, ← HPL.out]
          exact split_step hjn.out.1 hat
        · have := hjn.out.2; have := HJ.out; simp; omega
      clear hil hat
      go_wp2_with (at_builtin; refine wpList_append_s rfl (.tmp 16) (.tmp 20) rfl _ w.heap.size _ ts hrow.out rfl (u.extract 0 i) rfl rfl hts hbel.out.size ?_; intro v6 w6 hr6 hb6; have HB6 := Lib.hid (hbel.out.trans hb6); have HR6 := Lib.hid hr6; clear hr6 hb6)
      go_roundg (u.size - j)
      case measure => have := HJ.out; omega
      case rel => exact ⟨u.extract j u.size, ts ++ [u.extract 0 i], by go_num, by simp, by simp; omega, HR6, HN, HB6⟩
end Go.Proofs.YteibkaonofkcbaaGreatDoor
