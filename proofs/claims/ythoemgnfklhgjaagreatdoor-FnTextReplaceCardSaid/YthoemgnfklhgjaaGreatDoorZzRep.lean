/- A text with another part in each place of one: the package's own loops. -/
import Derived.Test.YthoemgnfklhgjaaGreatDoorSBuf
import Derived.Test.YthoemgnfklhgjaaGreatDoorIdxW
namespace Go.Proofs.YthoemgnfklhgjaaGreatDoor
open Go.RowKit
set_option maxRecDepth 20000 in
theorem dec_ascii (t : ByteArray) (h : 0 < t.size) (ha : (t[0]'h).toNat < 128) (w : World) :
    Calls Tryz.prog 61 #[.string t] w fun e w' => ∃ r, e = .returned (.tuple #[r, .int .i64 1]) ∧ w = w' := by
  have e1 := emp_false h
  have d : decide (((t[0]'h).toNat : Int) < 128) = true := by simp; omega
  have hz : (0 : Int) < (t.size : Int) := by omega
  go_enter Tryz.func61, Tryz.ntmps61
  go_wp2
  go_ret2
  exact ⟨_, rfl, rfl⟩
theorem ext_head (s : ByteArray) (i : Nat) (h : i < s.size) (hs : ∀ k (hk : k < s.size), (s[k]'hk).toNat < 128) : ∃ h0 : 0 < (s.extract i s.size).size, ((s.extract i s.size)[0]'h0).toNat < 128 := by
  refine ⟨by simp; omega, ?_⟩
  rw [ByteArray.getElem_extract]
  exact hs _ _
set_option maxRecDepth 20000 in
set_option maxHeartbeats 4000000 in
theorem rep_empty (s q : ByteArray) (n : Int) (w : World) (hs : AsciiT s) (hq : q.size ≤ 60) (h1 : -1000 ≤ n) (h2 : n ≤ 1000) :
    Calls Tryz.prog 49 #[.string s, .string ⟨#[]⟩, .string q, .int .i64 n] w fun e w' => e = .returned (.string ⟨(rep [] q.data.toList s.data.toList n).toArray⟩) ∧ Below w.heap.size w w' := by
  obtain ⟨hs60, hasc⟩ := hs
  have HA := Lib.hid hasc
  clear hasc
  have HL := rep_len [] q.data.toList s.data.toList n (by simpa using hq) (by simpa using hs60)
  obtain ⟨T, hT⟩ : ∃ T, T = rep [] q.data.toList s.data.toList n := ⟨_, rfl⟩
  rw [← hT] at HL ⊢
  have HT := Lib.hid hT
  have HLen := Lib.hid HL
  have HQL : Hid (q.data.toList.length = q.size ∧ s.data.toList.length = s.size) := ⟨by simp, by simp⟩
  have hb0 : (⟨#[]⟩ : ByteArray).toList.isEmpty = true := emp_true rfl
  clear hT HL
  go_enter Tryz.func49, Tryz.ntmps49
  have hSB0 := Lib.hid (sb_new w)
  have hBel0 := Lib.hid ((Below.refl w.heap.size w).alloc (Nat.le_refl _) (.cells #[.pointer none, .slice none 0 0] 121))
  go_wp2_with fail
  go_loopw [3, 10, 11, 12] (fun nv iv rv wv wr => ∃ (i : Nat) (k : Int) (out : List UInt8), nv = .int .i64 k ∧ iv = .int .i64 (i : Int) ∧ i ≤ s.size ∧ k + (i : Int) = n ∧ Hid (SB wr w.heap.size w.heap.size out) ∧ Hid (Below w.heap.size w wr) ∧ Hid (out ++ rep [] q.data.toList (s.data.toList.drop i) k = T)) (fun _ iv _ _ _ => s.size + 100 - (intOf iv).toNat)
  case atStart => exact ⟨0, n, [], rfl, rfl, Nat.zero_le _, by omega, hSB0, hBel0, by rw [HT.out]; simp [Hid]⟩
  case round =>
    obtain ⟨i, k, out, rfl, rfl, his, hki, hsb, hbel, hT⟩ := hrel
    have hk1 : -1060 ≤ k := by omega
    have hk2 : k ≤ 1000 := by omega
    have hlen : out.length ≤ 3720 := by have h := congrArg List.length hT.out; rw [List.length_append] at h; have := HLen.out; omega
    by_cases hk : k = 0
    · subst hk
      have his2 : (i : Int) ≤ (s.size : Int) := by omega
      go_wp2_with fail
      refine (write_string _ _ _ _ _ hsb.out (by simp; omega) hbel.out.size).mono ?_
      rintro e w1 ⟨rfl, hsb1, hb1⟩
      have HB1 := Lib.hid (hbel.out.trans hb1)
      have HS1 := Lib.hid hsb1
      clear hsb1 hb1
      go_wp2_with fail
      refine (builder_text _ _ _ _ HS1.out HB1.out.size).mono ?_
      rintro e w2 ⟨rfl, hb2⟩
      have HB2 := Lib.hid (HB1.out.trans hb2)
      clear hb2
      go_wp2
      go_ret
      refine ⟨?_, HB2.out⟩
      have h := hT.out
      rw [rep_zero] at h
      rw [← h, extract_list]
      simp
      exact List.take_of_length_le (by simp)
    · have hkb : (k == 0) = false := by rw [beq_eq_false_iff_ne]; exact hk
      have hkn : (k != 0) = true := by rw [bne, hkb]; rfl
      have HK := Lib.hid hk
      clear hk
      go_wp2_with fail
      refine (write_string _ _ _ _ _ hsb.out (by omega) hbel.out.size).mono ?_
      rintro e w1 ⟨rfl, hsb1, hb1⟩
      have HB1 := Lib.hid (hbel.out.trans hb1)
      have HS1 := Lib.hid hsb1
      clear hsb1 hb1
      by_cases hi : i = s.size
      · have hib : ((i : Int) == (s.size : Int)) = true := by rw [beq_iff_eq]; omega
        have HI := Lib.hid hi
        clear hi
        go_wp2_with fail
        refine (builder_text _ _ _ _ HS1.out HB1.out.size).mono ?_
        rintro e w2 ⟨rfl, hb2⟩
        have HB2 := Lib.hid (HB1.out.trans hb2)
        clear hb2
        go_wp2
        go_ret
        refine ⟨?_, HB2.out⟩
        have h := hT.out
        rw [List.drop_eq_nil_of_le (by rw [HQL.out.2]; have := HI.out; omega), rep_e HK.out] at h
        rw [← h]
        rfl
      · have hib : ((i : Int) == (s.size : Int)) = false := by rw [beq_eq_false_iff_ne]; omega
        have hil : i < s.size := by omega
        have his2 : (i : Int) ≤ (s.size : Int) := by omega
        obtain ⟨j, hj⟩ : ∃ j : Nat, (i : Int) + 1 = (j : Int) := ⟨i + 1, by omega⟩
        have HJ : Hid (i + 1 = j) := by unfold Hid; omega
        have hij : i ≤ j := by omega
        have hjs : j ≤ s.size := by omega
        obtain ⟨g0, ga⟩ := ext_head s i hil HA.out
        clear hi
        go_wp2_with fail
        refine (dec_ascii (s.extract i s.size) g0 ga _).mono ?_
        rintro e w' ⟨rr, rfl, rfl⟩
        go_wp2_with fail
        refine (write_string _ _ _ (s.extract i j) _ HS1.out (by simp; omega) HB1.out.size).mono ?_
        rintro e w2 ⟨rfl, hsb2, hb2⟩
        have HB2 := Lib.hid (HB1.out.trans hb2)
        have HS2 := Lib.hid hsb2
        clear hsb2 hb2
        go_wp2
        go_roundw
        case rel =>
          refine ⟨j, k - 1, _, by go_num, by go_num, by omega, by omega, HS2, HB2, ?_⟩
          obtain rfl := HJ.out
          have h := hT.out
          rw [drop_cons s i hil, rep_ec HK.out] at h
          unfold Hid
          rw [← h, extract_list]
          simp [drop_cons s i hil]
          have e : List.drop i (List.take (i + 1) s.data.toList) = [s[i]] := by rw [take_snoc s i hil]; exact List.drop_left' (by simp; omega)
          rw [e]
          rfl
        case measure => simp [intOf]; omega
def sLen : Value → Nat | .string t => t.size | _ => 0
set_option maxRecDepth 20000 in
set_option maxHeartbeats 4000000 in
theorem rep_full (s p q : ByteArray) (n : Int) (w : World) (hs : s.size ≤ 60) (hp : p.size ≤ 60) (hp1 : 1 ≤ p.size) (hq : q.size ≤ 60) (h1 : -1000 ≤ n) (h2 : n ≤ 1000) :
    Calls Tryz.prog 49 #[.string s, .string p, .string q, .int .i64 n] w fun e w' => e = .returned (.string ⟨(rep p.data.toList q.data.toList s.data.toList n).toArray⟩) ∧ Below w.heap.size w w' := by
  have HL := rep_len p.data.toList q.data.toList s.data.toList n (by simpa using hq) (by simpa using hs)
  obtain ⟨T, hT⟩ : ∃ T, T = rep p.data.toList q.data.toList s.data.toList n := ⟨_, rfl⟩
  rw [← hT] at HL ⊢
  have HT := Lib.hid hT
  have HLen := Lib.hid HL
  have HPL : Hid (p.data.toList.length = p.size) := by unfold Hid; simp
  have HPN : Hid (p.data.toList ≠ []) := fun e => by have := HPL.out; rw [e] at this; simp at this; omega
  have hb0 := emp_false (s := p) (by omega)
  clear hT HL
  go_enter Tryz.func49, Tryz.ntmps49
  have hSB0 := Lib.hid (sb_new w)
  have hBel0 := Lib.hid ((Below.refl w.heap.size w).alloc (Nat.le_refl _) (.cells #[.pointer none, .slice none 0 0] 121))
  go_wp2_with fail
  go_loopw [0, 3, 13] (fun uv nv iv wr => ∃ (u : ByteArray) (k : Int) (out : List UInt8), uv = .string u ∧ nv = .int .i64 k ∧ u.size ≤ 60 ∧ k ≤ 1000 ∧ -1060 ≤ k - (u.size : Int) ∧ Hid (SB wr w.heap.size w.heap.size out) ∧ Hid (Below w.heap.size w wr) ∧ Hid (out ++ rep p.data.toList q.data.toList u.data.toList k = T)) (fun uv _ _ _ => sLen uv)
  case atStart => exact ⟨s, n, [], rfl, rfl, hs, h2, by omega, hSB0, hBel0, by rw [HT.out]; simp [Hid]⟩
  case round =>
    obtain ⟨u, k, out, rfl, rfl, hu, hk2, hk1, hsb, hbel, hT⟩ := hrel
    have hlen : out.length ≤ 3720 := by have h := congrArg List.length hT.out; rw [List.length_append] at h; have := HLen.out; omega
    by_cases hk : k = 0
    · subst hk
      go_wp2_with fail
      refine (write_string _ _ _ u _ hsb.out (by omega) hbel.out.size).mono ?_
      rintro e w1 ⟨rfl, hsb1, hb1⟩
      have HB1 := Lib.hid (hbel.out.trans hb1)
      have HS1 := Lib.hid hsb1
      clear hsb1 hb1
      go_wp2_with fail
      refine (builder_text _ _ _ _ HS1.out HB1.out.size).mono ?_
      rintro e w2 ⟨rfl, hb2⟩
      have HB2 := Lib.hid (HB1.out.trans hb2)
      clear hb2
      go_wp2
      go_ret
      refine ⟨?_, HB2.out⟩
      have h := hT.out
      rw [rep_zero] at h
      rw [← h]
      rfl
    · have hkb : (k == 0) = false := by rw [beq_eq_false_iff_ne]; exact hk
      have hkn : (k != 0) = true := by rw [bne, hkb]; rfl
      have HK := Lib.hid hk
      clear hk
      go_wp2_with fail
      refine (zz_index u p hu hp hp1 _).mono ?_
      rintro e w' ⟨r, rfl, hr, rfl⟩
      rcases hr with ⟨rfl, hno⟩ | ⟨i, rfl, hil, hmin, hat⟩
      · have HNO := Lib.hid hno
        clear hno
        go_wp2_with fail
        refine (write_string _ _ _ u _ hsb.out (by omega) hbel.out.size).mono ?_
        rintro e w1 ⟨rfl, hsb1, hb1⟩
        have HB1 := Lib.hid (hbel.out.trans hb1)
        have HS1 := Lib.hid hsb1
        clear hsb1 hb1
        go_wp2_with fail
        refine (builder_text _ _ _ _ HS1.out HB1.out.size).mono ?_
        rintro e w2 ⟨rfl, hb2⟩
        have HB2 := Lib.hid (HB1.out.trans hb2)
        clear hb2
        go_wp2
        go_ret
        refine ⟨?_, HB2.out⟩
        have h := hT.out
        rw [rep_none HPN.out _ HNO.out] at h
        rw [← h]
        rfl
      · have HAT := Lib.hid (rep_at (q := q.data.toList) HK.out HPN.out i u.data.toList hmin hat)
        have hil2 : i + p.size ≤ u.size := by have := HPL.out; simp at hil; omega
        obtain ⟨j, hj⟩ : ∃ j : Nat, (i : Int) + (p.size : Int) = (j : Int) := ⟨i + p.size, by omega⟩
        have HJ : Hid (i + p.size = j) := by unfold Hid; omega
        have hd : decide ((i : Int) < 0) = false := by simp
        have hiu : (i : Int) ≤ (u.size : Int) := by omega
        have hi2 : i ≤ u.size := by omega
        have hju : (j : Int) ≤ (u.size : Int) := by omega
        have hj2 : j ≤ u.size := by omega
        clear hmin hat hil
        go_wp2_with fail
        refine (write_string _ _ _ (u.extract 0 i) _ hsb.out (by simp; omega) hbel.out.size).mono ?_
        rintro e w1 ⟨rfl, hsb1, hb1⟩
        have HB1 := Lib.hid (hbel.out.trans hb1)
        have HS1 := Lib.hid hsb1
        clear hsb1 hb1
        go_wp2_with fail
        refine (write_string _ _ _ q _ HS1.out (by simp; omega) HB1.out.size).mono ?_
        rintro e w2 ⟨rfl, hsb2, hb2⟩
        have HB2 := Lib.hid (HB1.out.trans hb2)
        have HS2 := Lib.hid hsb2
        clear hsb2 hb2
        go_wp2
        go_roundw
        case rel =>
          obtain rfl := HJ.out
          refine ⟨u.extract (i + p.size) u.size, k - 1, _, rfl, by go_num, by simp; omega, by omega, by simp; omega, HS2, HB2, ?_⟩
          have h := hT.out
          rw [HAT.out, HPL.out] at h
          unfold Hid
          rw [← h, extract_list, extract_list]
          simp
          rw [take_all u u.size (Nat.le_refl _)]
        case measure => simp [sLen]; omega
end Go.Proofs.YthoemgnfklhgjaaGreatDoor
