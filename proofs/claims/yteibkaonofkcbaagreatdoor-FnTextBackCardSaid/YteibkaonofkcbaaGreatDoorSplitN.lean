/- A text split at most so often: the package's own loop. -/
import Derived.Test.YteibkaonofkcbaaGreatDoorSplit
namespace Go.Proofs.YteibkaonofkcbaaGreatDoor
open Go.RowKit
set_option maxRecDepth 20000 in
set_option maxHeartbeats 4000000 in
theorem zz_splitN (s p : ByteArray) (n : Nat) (w : World) (hs : s.size ≤ 1000) (hp : p.size ≤ 1000) (hp1 : 1 ≤ p.size) (hn1 : 1 ≤ n) (hn : n ≤ 1000) :
    Calls Tryz.prog 36 #[.string s, .string p, .int .i64 (n : Int)] w (SplitPost s p n w) := by
  have HPL : Hid (p.data.toList.length = p.size) := by unfold Hid; simp
  have hb0 := emp_false (s := p) (by omega)
  have hn0 : ((n : Int) == 0) = false := by rw [beq_eq_false_iff_ne]; omega
  go_enter Tryz.func36, Tryz.ntmps36
  go_wp2_with fail
  go_loopg [0, 2, 7, 10] n (fun k uv nv ov _ wr => ∃ (u : ByteArray) (ts : List ByteArray), uv = .string u ∧ nv = .int .i64 (k : Int) ∧ 1 ≤ k ∧ k ≤ 1000 ∧ u.size ≤ 1000 ∧ Hid (RowT wr w.heap.size ov ts) ∧ Hid (headL p.data.toList ts ++ u.data.toList = s.data.toList ∧ ts.length + k ≤ n) ∧ Hid (Below w.heap.size w wr))
  case atStart => exact ⟨s, [], rfl, rfl, hn1, hn, hs, RowT.nil _ _, ⟨rfl, by simp⟩, Below.refl _ _⟩
  case round =>
    obtain ⟨u, ts, rfl, rfl, hk1, hk2, hu, hrow, hjn, hbel⟩ := hrel
    have hts : ts.length ≤ 10000 := by have := hjn.out.2; omega
    have HEND : Hid (∀ v6 w6, RowT w6 w.heap.size v6 (ts ++ [u]) → Below w.heap.size w w6 → SplitPost s p n w (.returned v6) w6) := fun v6 w6 h1 h2 =>
      ⟨v6, ts ++ [u], rfl, h1, by rw [joinL_head]; exact hjn.out.1, by simp, by have := hjn.out.2; simp; omega, h2⟩
    by_cases hk : gk = 1
    · subst hk
      go_wp2_with (at_builtin; refine wpList_append_s rfl (.tmp 65) (.tmp 67) rfl _ w.heap.size _ ts hrow.out rfl u rfl rfl hts hbel.out.size ?_; intro v6 w6 hr6 hb6)
      go_ret
      exact HEND.out _ _ hr6 (hbel.out.trans hb6)
    · have hkb : ((gk : Int) == 1) = false := by rw [beq_eq_false_iff_ne]; omega
      have hkn : ((gk : Int) != 1) = true := by rw [bne, hkb]; rfl
      have HK := Lib.hid hk
      clear hk
      go_wp2_with fail
      refine (zz_index u p hu hp hp1 _).mono ?_
      rintro e w' ⟨r, rfl, hr, rfl⟩
      rcases hr with ⟨rfl, _⟩ | ⟨i, rfl, hil, _, hat⟩
      · go_wp2_with (at_builtin; refine wpList_append_s rfl (.tmp 65) (.tmp 67) rfl _ w.heap.size _ ts hrow.out rfl u rfl rfl hts hbel.out.size ?_; intro v6 w6 hr6 hb6)
        go_ret
        exact HEND.out _ _ hr6 (hbel.out.trans hb6)
      · have hil2 : i + p.size ≤ u.size := by have := HPL.out; simp at hil; omega
        obtain ⟨j, hj⟩ : ∃ j : Nat, (i : Int) + (p.size : Int) = (j : Int) := ⟨i + p.size, by omega⟩
        have HJ : Hid (i + p.size = j) := by unfold Hid; omega
        have hd : decide ((i : Int) < 0) = false := by simp
        have hiu : (i : Int) ≤ (u.size : Int) := by omega
        have hi2 : i ≤ u.size := by omega
        have hju : (j : Int) ≤ (u.size : Int) := by omega
        have hju2 : j ≤ u.size := by omega
        have HN : Hid (headL p.data.toList (ts ++ [u.extract 0 i]) ++ (u.extract j u.size).data.toList = s.data.toList ∧ (ts ++ [u.extract 0 i]).length + (gk - 1) ≤ n) := by
          refine ⟨?_, ?_⟩
          · rw [headL_snoc, ext_take, ext_drop, ← HJ.out, ← HPL.out]
            exact split_step hjn.out.1 hat
          · have := hjn.out.2; have := HK.out; simp; omega
        clear hil hat
        go_wp2_with (at_builtin; refine wpList_append_s rfl (.tmp 53) (.tmp 57) rfl _ w.heap.size _ ts hrow.out rfl (u.extract 0 i) rfl rfl hts hbel.out.size ?_; intro v6 w6 hr6 hb6; have HB6 := Lib.hid (hbel.out.trans hb6); have HR6 := Lib.hid hr6; clear hr6 hb6)
        have hkk : ((gk - 1 : Nat) : Int) = (gk : Int) - 1 := by omega
        go_roundg (gk - 1)
        case measure => have := HK.out; omega
        case rel => exact ⟨u.extract j u.size, ts ++ [u.extract 0 i], by go_num, by rw [hkk], by have := HK.out; omega, by omega, by simp; omega, HR6, HN, HB6⟩
end Go.Proofs.YteibkaonofkcbaaGreatDoor
