/- How often a part stands in a text: the package's own count. -/
import Derived.Test.YthoemgnfklhgjaaGreatCnt
import Derived.Test.YthoemgnfklhgjaaGreatAscii
namespace Go.Proofs.YthoemgnfklhgjaaGreat
open Go.RowKit
theorem part_eq (s p : ByteArray) (i j : Nat) (hj : i + p.size = j) (hjs : j ≤ s.size) : ((s.extract i j).toList == p.toList) = decide ((s.data.toList.drop i).take p.size = p.data.toList) := by
  rw [extract_list, List.drop_take]
  have h : (⟨((s.data.toList.drop i).take (j - i)).toArray⟩ : ByteArray).toList = (s.data.toList.drop i).take (j - i) := by simp [ByteArray.toList_eq]
  rw [h, ByteArray.toList_eq, show j - i = p.size by omega]
  rw [Bool.eq_iff_iff]; simp
set_option maxRecDepth 20000 in
set_option maxHeartbeats 4000000 in
theorem zz_count (s p : ByteArray) (hs : AsciiT s) (hp : p.size ≤ 60) (w : World) :
    Calls Tryz.prog 64 #[.string s, .string p] w fun e w' => e = .returned (.int .i64 ((rest p.data.toList s.data.toList 0 : Nat) : Int)) ∧ Below w.heap.size w w' := by
  obtain ⟨hs60, hasc⟩ := hs
  have HA := Lib.hid hasc
  clear hasc
  by_cases h0 : p.size = 0
  · have hb : ((p.size : Int) == 0) = true := by rw [beq_iff_eq]; omega
    have hpe : p.data.toList = [] := List.eq_nil_of_length_eq_zero (by simpa using h0)
    have HR : Hid (rest p.data.toList s.data.toList 0 = s.size + 1) := by unfold Hid rest; rw [if_pos hpe]; simp
    clear h0 hpe
    go_enter Tryz.func64, Tryz.ntmps64
    go_wp2_with fail
    go_loopw [5] (fun nv wr => ∃ (k : Nat), k ≤ s.size ∧ wr = w.iter s k ∧ nv = .int .i64 (k : Int)) (fun _ wr => s.size - wr.iterPos w.heap.size)
    case atStart => exact ⟨0, Nat.zero_le _, rfl, rfl⟩
    case round =>
      obtain ⟨k, hk, rfl, rfl⟩ := hrel
      by_cases hks : k < s.size
      · have hnx := fun ty => run_next_ascii (P := Tryz.prog) w s k ty hks (HA.out k hks)
        go_wp2
        go_roundw
        case rel => exact ⟨k + 1, by omega, rfl, by go_num⟩
        case measure => simp; omega
      · have hke : k = s.size := by omega
        subst hke
        have hnx := fun ty => run_next_end (P := Tryz.prog) w s s.size ty hks
        go_wp2
        go_ret
        exact ⟨ret_int (by rw [HR.out]; omega), (Below.refl _ w).alloc (Nat.le_refl _) _⟩
  · have hb : ((p.size : Int) == 0) = false := by rw [beq_eq_false_iff_ne]; omega
    have hp1 : 1 ≤ p.size := by omega
    have HPL : Hid (p.data.toList.length = p.size ∧ s.data.toList.length = s.size) := ⟨by simp, by simp⟩
    clear h0
    go_enter Tryz.func64, Tryz.ntmps64
    go_wp2_with fail
    go_loopw [5, 6] (fun nv iv wr => ∃ (n i : Nat), wr = w ∧ nv = .int .i64 (n : Int) ∧ iv = .int .i64 (i : Int) ∧ n ≤ i ∧ i ≤ s.size ∧ Hid (n + rest p.data.toList s.data.toList i = rest p.data.toList s.data.toList 0)) (fun _ iv _ => s.size + 100 - (intOf iv).toNat)
    case atStart => exact ⟨0, 0, rfl, rfl, rfl, Nat.le_refl _, Nat.zero_le _, by unfold Hid; omega⟩
    case round =>
      obtain ⟨n, i, rfl, rfl, rfl, hni, his, hr⟩ := hrel
      obtain ⟨j, hj⟩ : ∃ j : Nat, (i : Int) + (p.size : Int) = (j : Int) := ⟨i + p.size, by omega⟩
      have HJ : Hid (i + p.size = j) := by unfold Hid; omega
      by_cases hjs : j ≤ s.size
      · have hd : decide ((j : Int) ≤ (s.size : Int)) = true := by simp; omega
        have hij : i ≤ j := by omega
        obtain ⟨q, hq⟩ : ∃ q, q = s.extract i j := ⟨_, rfl⟩
        by_cases he : (s.data.toList.drop i).take p.size = p.data.toList
        · have hE : ((s.extract i j).toList == p.toList) = true := by rw [part_eq s p i j HJ.out hjs]; simpa using he
          have HH := Lib.hid (rest_hit (p := p.data.toList) (l := s.data.toList) (k := i) (by rw [HPL.out.1, HPL.out.2]; omega) (by rw [HPL.out.1]; exact he))
          clear he
          go_wp2
          go_roundw
          case rel =>
            refine ⟨n + 1, j, trivial, by go_num, rfl, by have := HJ.out; omega, hjs, ?_⟩
            have h1 := HH.out
            rw [HPL.out.1, show max (i + 1) (i + p.size) = j by have := HJ.out; omega] at h1
            have h2 := hr.out
            unfold Hid
            omega
          case measure => have := HJ.out; simp [intOf]; omega
        · have hE : ((s.extract i j).toList == p.toList) = false := by rw [part_eq s p i j HJ.out hjs]; simpa using he
          have HH := Lib.hid (rest_miss (p := p.data.toList) (l := s.data.toList) (k := i) (by rw [HPL.out.1, HPL.out.2]; omega) (by rw [HPL.out.1]; exact he))
          clear he
          go_wp2
          go_roundw
          case rel =>
            refine ⟨n, i + 1, trivial, rfl, by go_num, by omega, by have := HJ.out; omega, ?_⟩
            have h1 := HH.out
            have h2 := hr.out
            unfold Hid
            omega
          case measure => simp [intOf]; omega
      · have hd : decide ((j : Int) ≤ (s.size : Int)) = false := by simp; omega
        have HE := Lib.hid (rest_end (p := p.data.toList) (l := s.data.toList) (k := i) (by rw [HPL.out.1, HPL.out.2]; omega))
        go_wp2
        go_ret
        exact ⟨ret_int (by rw [← hr.out, HE.out]; rfl), Below.refl _ _⟩
end Go.Proofs.YthoemgnfklhgjaaGreat
