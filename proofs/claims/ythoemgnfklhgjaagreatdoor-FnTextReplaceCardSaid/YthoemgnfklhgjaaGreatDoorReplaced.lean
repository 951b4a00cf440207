/- The reference's replace: how many at most, and the text with another part in each place. -/
import Derived.Test.YthoemgnfklhgjaaGreatDoorArg
import Derived.Deep.RegionHeld3
namespace Go.Proofs.YthoemgnfklhgjaaGreatDoor
open Go.RowKit
attribute [local go_sem ↓] Go.wp_at_zero Go.wp_at_succ
/-- The arguments of replace, as values in block S: two texts, and a count or none. -/
def RArgs (w : World) (S : Nat) (p q : ByteArray) (c : Option Int) : Prop :=
  S < w.heap.size ∧ (w.cell? ⟨S, 0, none⟩ = some (.int .i64 4) ∧ w.cell? ⟨S, 4, none⟩ = some (.string p) ∧ w.cell? ⟨S, 6, none⟩ = some (.int .i64 4) ∧ w.cell? ⟨S, 10, none⟩ = some (.string q)) ∧ ∀ n, c = some n → ArgAt w S 12 (.int n)
theorem RArgs.below {w w' : World} {S : Nat} {p q : ByteArray} {c : Option Int} (h : RArgs w S p q c) (hb : Below w.heap.size w w') : RArgs w' S p q c :=
  ⟨Nat.lt_of_lt_of_le h.1 hb.size, ⟨(hb.cell (p := ⟨S, _, none⟩) h.1).trans h.2.1.1, (hb.cell (p := ⟨S, _, none⟩) h.1).trans h.2.1.2.1, (hb.cell (p := ⟨S, _, none⟩) h.1).trans h.2.1.2.2.1, (hb.cell (p := ⟨S, _, none⟩) h.1).trans h.2.1.2.2.2⟩, fun n hn => (h.2.2 n hn).below hb⟩
set_option maxRecDepth 100000 in
set_option maxHeartbeats 4000000 in
theorem count_any (S cap : Nat) (p q : ByteArray) (c : Option Int) (w : World) (hc : CountOk c) (hA : RArgs w S p q c) :
    Calls Tryz.prog 36 #[.slice (some ⟨S, 0, none⟩) (cntN c) cap, .int .i64 2] w fun e w' => e = .returned (.tuple #[.int .i64 (cntOf c), .bool true]) ∧ Below w.heap.size w w' := by
  cases c with
  | none =>
    unfold cntN cntOf
    simp only [Option.isSome_none, Bool.false_eq_true, if_false, Option.getD_none]
    go_enter Tryz.func36, Tryz.ntmps36
    go_wp2
    go_ret2
    exact ⟨rfl, Below.refl _ _⟩
  | some n =>
    obtain ⟨hSl, neg, a, m, cc, tx, hp, c0, c1, c2, c3, c4, c5⟩ := hA.2.2 n rfl
    have hn := hc n rfl
    have HN := Lib.hid (num_arg (.int n) neg a m cc tx w (by show -2147483648 ≤ n ∧ n ≤ 2147483647; omega) hp)
    have HNB := Lib.hid hn
    unfold cntN cntOf
    simp only [Option.isSome_some, if_true, Option.getD_some]
    have c0' : w.cell? ⟨S, 12, none⟩ = some (.int .i64 2) := c0
    unfold pv kindOf at HN
    clear hA hp hc hn c0
    go_enter Tryz.func36, Tryz.ntmps36
    go_wp2_with fail
    refine HN.out.mono ?_
    rintro e wA ⟨vA, rfl, ⟨BA, nA, lA, hsA, hlA, hvA⟩, hbA⟩
    have HBA := Lib.hid hbA
    have HSA := Lib.hid (spec_int64 BA vA nA lA wA hsA (by omega))
    have hvA' : intOf2 nA lA = n := hvA
    rw [hvA'] at HSA
    unfold S64Post at HSA
    have hn := HNB.out
    rw [if_pos (by omega), decide_eq_true (by omega)] at HSA
    clear hvA' hsA hvA hbA HN hn
    go_wp2_with fail
    refine HSA.out.mono ?_
    rintro e wB ⟨rfl, hbB⟩
    have HBB := Lib.hid (HBA.out.trans (hbB.mono HBA.out.size))
    have d0 : wB.cell? ⟨S, 12, none⟩ = some (.int .i64 2) := (HBB.out.cell (p := ⟨S, 12, none⟩) hSl).trans c0'
    clear hbB HSA
    go_wp2
    go_ret2
    exact ⟨rfl, HBB.out⟩
section
variable {p q : List UInt8}
theorem rep_step_skip {out l : List UInt8} {c : UInt8} {k : Int} {T : List UInt8} (h : out ++ rep p q (c :: l) k = T) (hn : ¬ (k ≠ 0 ∧ (c :: l).take p.length = p)) : (out ++ [c]) ++ rep p q l k = T := by
  rw [← h, rep_skip hn]; simp
theorem rep_step_end {out : List UInt8} {k : Int} {T : List UInt8} (h : out ++ rep p q [] k = T) (hn : ¬ (k ≠ 0 ∧ p = [])) : out = T := by
  rw [← h, rep_end hn]; simp
end
theorem ext_one (s : ByteArray) (i : Nat) (h : i < s.size) : (s.extract i (i + 1)).data.toList = [s[i]] := by
  rw [extract_list, take_snoc s i h]
  exact List.drop_left' (by simp; omega)
def RepdPost (s p q : ByteArray) (c : Option Int) (w : World) (e : Ending) (w' : World) : Prop := e = .returned (.tuple #[pStr (repB s p q (cntOf c)), .bool true]) ∧ Below w.heap.size w w'
set_option maxRecDepth 100000 in
set_option maxHeartbeats 8000000 in
theorem replaced_any (s p q : ByteArray) (S cap : Nat) (c : Option Int) (w : World) (hs : s.size ≤ 60) (hp : p.size ≤ 60) (hq : q.size ≤ 60) (hc : CountOk c) (hA : RArgs w S p q c) :
    Calls Tryz.prog 23 #[.string s, .slice (some ⟨S, 0, none⟩) (cntN c) cap] w (RepdPost s p q c w) := by
  have HB0 := Lib.hid ((Below.refl w.heap.size w).alloc (Nat.le_refl _) (.cells #[.int .i64 0, .bool false, .slice none 0 0, .int .u64 0, .string ⟨#[]⟩, .slice none 0 0] 28))
  have HK0 := Lib.hid (Blk.new w 28 #[.int .i64 0, .bool false, .slice none 0 0, .int .u64 0, .string ⟨#[]⟩, .slice none 0 0])
  have HA0 := Lib.hid (hA.below HB0.out)
  have HCN := Lib.hid (count_any S cap p q c _ hc HA0.out)
  have hSl := hA.1
  have hcn := cnt_ok hc
  obtain ⟨N, hN⟩ : ∃ N, N = cntN c := ⟨_, rfl⟩
  have hN2 : 2 ≤ N := by rw [hN]; unfold cntN; split <;> omega
  have hN3 : N ≤ 3 := by rw [hN]; unfold cntN; split <;> omega
  obtain ⟨n, hn⟩ : ∃ n, n = cntOf c := ⟨_, rfl⟩
  rw [← hn] at hcn HCN
  rw [← hN] at HCN ⊢
  have k2 : decide ((N : Int) < 2) = false := by simp; omega
  have k3 : decide ((3 : Int) < (N : Int)) = false := by simp; omega
  have l0 : (0 : Int) < (N : Int) := by omega
  have l1 : (1 : Int) < (N : Int) := by omega
  have m0 : 0 < N := by omega
  have m1 : 1 < N := by omega
  unfold RepdPost
  rw [← hn]
  have HCB := Lib.hid hcn
  obtain ⟨T, hT⟩ : ∃ T, T = rep p.data.toList q.data.toList s.data.toList n := ⟨_, rfl⟩
  have HT := Lib.hid hT
  have HLen : Hid (T.length ≤ 3720) := by rw [hT]; exact rep_len _ _ _ _ (by simpa using hq) (by simpa using hs)
  have HPL : Hid (p.data.toList.length = p.size ∧ s.data.toList.length = s.size ∧ q.data.toList.length = q.size) := ⟨by simp, by simp, by simp⟩
  clear hA hc hN hn hcn hT
  go_enter Tryz.func23, Tryz.ntmps23
  go_wp2_with fail
  refine HCN.out.mono ?_
  rintro e w1 ⟨rfl, hb1⟩
  have HB1 := Lib.hid (HB0.out.trans (hb1.mono HB0.out.size))
  obtain ⟨hl1, ⟨a0, a4, a6, a10⟩, _⟩ := HA0.out.below hb1
  have HK1 := Lib.hid (HK0.out.below hb1 HK0.out.lt)
  clear hb1
  go_wp2_with fail
  go_region_held3 (fun W => W.cell? ⟨S, 4, none⟩ = some (.string p) ∧ W.cell? ⟨S, 10, none⟩ = some (.string q)) (first | exact ⟨a4, a10⟩ | go_keep) (fail)
  go_wp2_with fail
  clear a0 a4 a6 a10 l0 l1 m0 m1 k2 k3 HCN
  go_loopw [10, 11, 12] (fun ov mv iv wr => ∃ (out : ByteArray) (m i : Nat), wr = w1.drew ∧ ov = .string out ∧ mv = .int .i64 (m : Int) ∧ iv = .int .i64 (i : Int) ∧ m ≤ i ∧ i ≤ s.size + 1 ∧ Hid ((i ≤ s.size ∧ out.data.toList ++ rep p.data.toList q.data.toList (s.data.toList.drop i) (n - m) = T) ∨ (i = s.size + 1 ∧ out.data.toList = T))) (fun _ _ iv _ => s.size + 100 - (intOf iv).toNat)
  case atStart => exact ⟨⟨#[]⟩, 0, 0, rfl, rfl, rfl, rfl, Nat.le_refl _, Nat.zero_le _, .inl ⟨Nat.zero_le _, by rw [HT.out]; simp⟩⟩
  case round =>
    obtain ⟨out, m, i, rfl, rfl, rfl, rfl, hmi, hi, hI⟩ := hrel
    have hlen : out.size ≤ 3720 := by
      have hz : out.data.toList.length = out.size := by simp
      rcases hI.out with ⟨_, h⟩ | ⟨_, h⟩
      · have h := congrArg List.length h; rw [List.length_append] at h; have := HLen.out; omega
      · have h := congrArg List.length h; have := HLen.out; omega
    by_cases his : i ≤ s.size
    · have hR : Hid (out.data.toList ++ rep p.data.toList q.data.toList (s.data.toList.drop i) (n - m) = T) := by
        rcases hI.out with ⟨_, h⟩ | ⟨h, _⟩
        · exact h
        · omega
      have di : decide ((i : Int) ≤ (s.size : Int)) = true := by simp; omega
      clear hI hi
      have hnb := HCB.out
      obtain ⟨j, hj⟩ : ∃ j : Nat, (i : Int) + (p.size : Int) = (j : Int) := ⟨i + p.size, by omega⟩
      have HJ : Hid (i + p.size = j) := by unfold Hid; omega
      by_cases hmn : (m : Int) = n
      · have b1 : ((m : Int) == n) = true := by rw [beq_iff_eq]; exact hmn
        have b2 : ((m : Int) != n) = false := by rw [bne, b1]; rfl
        have HNO : Hid (¬ (n - m ≠ 0 ∧ (s.data.toList.drop i).take p.data.toList.length = p.data.toList)) := fun e => e.1 (by omega)
        clear hmn
        by_cases hil : i < s.size
        · have d3 : decide ((i : Int) < (s.size : Int)) = true := by simp; omega
          obtain ⟨k, hk⟩ : ∃ k : Nat, (i : Int) + 1 = (k : Int) := ⟨i + 1, by omega⟩
          have HK' : Hid (i + 1 = k) := by unfold Hid; omega
          have hik : i ≤ k := by omega
          have hks : k ≤ s.size := by omega
          go_wp2
          go_roundw
          case rel =>
            refine ⟨_, m, k, trivial, rfl, rfl, by go_num, by omega, by omega, .inl ⟨hks, ?_⟩⟩
            have h := hR.out
            rw [drop_cons s i hil] at h
            have h2 := rep_step_skip h (by rw [← drop_cons s i hil]; exact HNO.out)
            obtain rfl := HK'.out
            have e : (out ++ s.extract i (i + 1)).data.toList = out.data.toList ++ [s[i]] := by rw [ByteArray.data_append, Array.toList_append, ext_one s i hil]
            rw [e]
            exact h2
          case measure => simp [intOf]; omega
        · have d3 : decide ((i : Int) < (s.size : Int)) = false := by simp; omega
          obtain ⟨k, hk⟩ : ∃ k : Nat, (i : Int) + 1 = (k : Int) := ⟨i + 1, by omega⟩
          go_wp2
          go_roundw
          case rel =>
            refine ⟨out, m, k, trivial, rfl, rfl, by go_num, by omega, by omega, .inr ⟨by omega, ?_⟩⟩
            have h := hR.out
            have hn := HNO.out
            rw [List.drop_eq_nil_of_le (by rw [HPL.out.2.1]; omega)] at h hn
            exact rep_step_end h (fun e => hn ⟨e.1, by rw [e.2]; simp⟩)
          case measure => simp [intOf]; omega
      · have b1 : ((m : Int) == n) = false := by rw [beq_eq_false_iff_ne]; exact hmn
        have b2 : ((m : Int) != n) = true := by rw [bne, b1]; rfl
        have HNE : Hid (n - (m : Int) ≠ 0) := by unfold Hid; omega
        clear hmn
        by_cases hjs : j ≤ s.size
        · have d1 : decide ((j : Int) ≤ (s.size : Int)) = true := by simp; omega
          have hij : i ≤ j := by omega
          by_cases he : (s.data.toList.drop i).take p.size = p.data.toList
          · have hE : ((s.extract i j).toList == p.toList) = true := by rw [part_eq s p i j HJ.out hjs]; simpa using he
            have HE := Lib.hid he
            clear he
            by_cases hp0 : p.size = 0
            · have hpe : p.data.toList = [] := List.eq_nil_of_length_eq_zero (by rw [HPL.out.1]; exact hp0)
              have HPE := Lib.hid hpe
              have d4 : decide ((0 : Int) < (p.size : Int)) = false := decide_eq_false (by omega)
              have d4' : decide (0 < p.size) = false := decide_eq_false (by omega)
              clear hpe hp0
              by_cases hil : i < s.size
              · have d3 : decide ((i : Int) < (s.size : Int)) = true := by simp; omega
                obtain ⟨k, hk⟩ : ∃ k : Nat, (i : Int) + 1 = (k : Int) := ⟨i + 1, by omega⟩
                have HK' : Hid (i + 1 = k) := by unfold Hid; omega
                have hik : i ≤ k := by omega
                have hks : k ≤ s.size := by omega
                go_wp2
                go_roundw
                case rel =>
                  refine ⟨_, m + 1, k, trivial, rfl, by go_num, by go_num, by omega, by omega, .inl ⟨hks, ?_⟩⟩
                  have h := hR.out
                  rw [HPE.out, drop_cons s i hil, rep_ec HNE.out] at h
                  obtain rfl := HK'.out
                  have e : (out ++ q ++ s.extract i (i + 1)).data.toList = out.data.toList ++ q.data.toList ++ [s[i]] := by rw [ByteArray.data_append, Array.toList_append, ByteArray.data_append, Array.toList_append, ext_one s i hil]
                  rw [e, ← h, HPE.out, show n - ((m + 1 : Nat) : Int) = n - m - 1 by omega]
                  simp
                case measure => simp [intOf]; omega
              · have d3 : decide ((i : Int) < (s.size : Int)) = false := by simp; omega
                obtain ⟨k, hk⟩ : ∃ k : Nat, (i : Int) + 1 = (k : Int) := ⟨i + 1, by omega⟩
                go_wp2
                go_roundw
                case rel =>
                  refine ⟨_, m + 1, k, trivial, rfl, by go_num, by go_num, by omega, by omega, .inr ⟨by omega, ?_⟩⟩
                  have h := hR.out
                  rw [HPE.out, List.drop_eq_nil_of_le (by rw [HPL.out.2.1]; omega), rep_e HNE.out] at h
                  rw [← h]
                  simp
                case measure => simp [intOf]; omega
            · have hpn : p.data.toList ≠ [] := fun e => by have := HPL.out.1; rw [e] at this; simp at this; omega
              have HPN := Lib.hid hpn
              have d4 : decide ((0 : Int) < (p.size : Int)) = true := decide_eq_true (by omega)
              have d4' : decide (0 < p.size) = true := decide_eq_true (by omega)
              clear hpn
              go_wp2
              go_roundw
              case rel =>
                refine ⟨_, m + 1, j, trivial, rfl, by go_num, by go_num, by have := HJ.out; omega, by omega, .inl ⟨hjs, ?_⟩⟩
                have h := hR.out
                rw [rep_hit HNE.out HPN.out (by rw [HPL.out.1]; exact HE.out), HPL.out.1, List.drop_drop, HJ.out] at h
                rw [← h, show n - ((m + 1 : Nat) : Int) = n - m - 1 by omega]
                simp
              case measure => have := HJ.out; simp [intOf]; omega
          · have hE : ((s.extract i j).toList == p.toList) = false := by rw [part_eq s p i j HJ.out hjs]; simpa using he
            have HNO : Hid (¬ (n - m ≠ 0 ∧ (s.data.toList.drop i).take p.data.toList.length = p.data.toList)) := fun e => he (by rw [HPL.out.1] at e; exact e.2)
            clear he
            by_cases hil : i < s.size
            · have d3 : decide ((i : Int) < (s.size : Int)) = true := by simp; omega
              obtain ⟨k, hk⟩ : ∃ k : Nat, (i : Int) + 1 = (k : Int) := ⟨i + 1, by omega⟩
              have HK' : Hid (i + 1 = k) := by unfold Hid; omega
              have hik : i ≤ k := by omega
              have hks : k ≤ s.size := by omega
              go_wp2
              go_roundw
              case rel =>
                refine ⟨_, m, k, trivial, rfl, rfl, by go_num, by omega, by omega, .inl ⟨hks, ?_⟩⟩
                have h := hR.out
                rw [drop_cons s i hil] at h
                have h2 := rep_step_skip h (by rw [← drop_cons s i hil]; exact HNO.out)
                obtain rfl := HK'.out
                have e : (out ++ s.extract i (i + 1)).data.toList = out.data.toList ++ [s[i]] := by rw [ByteArray.data_append, Array.toList_append, ext_one s i hil]
                rw [e]
                exact h2
              case measure => simp [intOf]; omega
            · have d3 : decide ((i : Int) < (s.size : Int)) = false := by simp; omega
              obtain ⟨k, hk⟩ : ∃ k : Nat, (i : Int) + 1 = (k : Int) := ⟨i + 1, by omega⟩
              go_wp2
              go_roundw
              case rel =>
                refine ⟨out, m, k, trivial, rfl, rfl, by go_num, by omega, by omega, .inr ⟨by omega, ?_⟩⟩
                have h := hR.out
                have hn := HNO.out
                rw [List.drop_eq_nil_of_le (by rw [HPL.out.2.1]; omega)] at h hn
                exact rep_step_end h (fun e => hn ⟨e.1, by rw [e.2]; simp⟩)
              case measure => simp [intOf]; omega
        · have d1 : decide ((j : Int) ≤ (s.size : Int)) = false := by simp; omega
          have HNO : Hid (¬ (n - m ≠ 0 ∧ (s.data.toList.drop i).take p.data.toList.length = p.data.toList)) := fun e => by
            have e2 := congrArg List.length e.2
            have := HJ.out
            simp at e2
            omega
          by_cases hil : i < s.size
          · have d3 : decide ((i : Int) < (s.size : Int)) = true := by simp; omega
            obtain ⟨k, hk⟩ : ∃ k : Nat, (i : Int) + 1 = (k : Int) := ⟨i + 1, by omega⟩
            have HK' : Hid (i + 1 = k) := by unfold Hid; omega
            have hik : i ≤ k := by omega
            have hks : k ≤ s.size := by omega
            go_wp2
            go_roundw
            case rel =>
              refine ⟨_, m, k, trivial, rfl, rfl, by go_num, by omega, by omega, .inl ⟨hks, ?_⟩⟩
              have h := hR.out
              rw [drop_cons s i hil] at h
              have h2 := rep_step_skip h (by rw [← drop_cons s i hil]; exact HNO.out)
              obtain rfl := HK'.out
              have e : (out ++ s.extract i (i + 1)).data.toList = out.data.toList ++ [s[i]] := by rw [ByteArray.data_append, Array.toList_append, ext_one s i hil]
              rw [e]
              exact h2
            case measure => simp [intOf]; omega
          · have d3 : decide ((i : Int) < (s.size : Int)) = false := by simp; omega
            obtain ⟨k, hk⟩ : ∃ k : Nat, (i : Int) + 1 = (k : Int) := ⟨i + 1, by omega⟩
            go_wp2
            go_roundw
            case rel =>
              refine ⟨out, m, k, trivial, rfl, rfl, by go_num, by omega, by omega, .inr ⟨by omega, ?_⟩⟩
              have h := hR.out
              have hn := HNO.out
              rw [List.drop_eq_nil_of_le (by rw [HPL.out.2.1]; omega)] at h hn
              exact rep_step_end h (fun e => hn ⟨e.1, by rw [e.2]; simp⟩)
            case measure => simp [intOf]; omega
    · have di : decide ((i : Int) ≤ (s.size : Int)) = false := by simp; omega
      have hR : Hid (out.data.toList = T) := by
        rcases hI.out with ⟨h, _⟩ | ⟨_, h⟩
        · omega
        · exact h
      clear hI hi
      go_wp2_with fail
      refine (text_val out _).mono ?_
      rintro e w2 ⟨rfl, hb2⟩
      have HK2 := Lib.hid (HK1.out.drew.below hb2 HK1.out.lt)
      obtain ⟨c0, c1, c2, c3, c4, c5, f0, f1, f2, f3, f4, f5⟩ := blk6 HK2.out
      have HB2 := Lib.hid (HB1.out.drew.trans (hb2.mono HB1.out.size))
      have HRB : Hid (repB s p q n = out) := by
        unfold Hid repB
        rw [← HT.out, ← hR.out]
      clear hb2
      unfold pStr
      go_wp2
      refine bodyPost_ret (v := .tuple #[pStr out, .bool true]) (by simp [results, Tryz.results23, go_sem, pStr, c0, c1, c2, c3, c4, c5]) rfl ⟨by rw [HRB.out], ?_⟩
      exact HB2.out.trans ((six_set w2 w.heap.size (.int .i64 4) (.bool false) (.slice none 0 0) (.int .u64 0) (.string out) (.slice none 0 0)).to_below HB2.out.size (fun k _ e => by omega))
end Go.Proofs.YthoemgnfklhgjaaGreatDoor
