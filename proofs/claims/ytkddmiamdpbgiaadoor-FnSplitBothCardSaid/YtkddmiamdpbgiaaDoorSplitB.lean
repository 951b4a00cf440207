/- The walk of the package's split at white space from the end on, over texts of bytes below 128. -/
import Derived.Test.YtkddmiamdpbgiaaDoorSplitF
import Derived.RegionTactic
import Derived.BigRegion
namespace Go.Proofs.YtkddmiamdpbgiaaDoor
open Go.RowKit
set_option maxRecDepth 20000 in
/-- utf8.DecodeLastRuneInString, of a text whose last byte is below 128. -/
theorem last_ascii (t : ByteArray) (n : Nat) (h : t.size = n + 1) (hb : n < 1000) (c : UInt8) (hc : ∀ h : n < t.size, t[n] = c) (hl : (c.toNat : Int) < 128) (w : World) :
    Calls Tryd.prog 40 #[.string t] w fun e w' => e = .returned (.tuple #[.int .i32 (c.toNat : Int), .int .i64 1]) ∧ w = w' := by
  have hlt : n < t.size := by omega
  obtain rfl := hc hlt
  have hz : ((t.size : Int) == 0) = false := by rw [beq_eq_false_iff_ne]; omega
  have H := Lib.hid h
  have h1 : (0 : Int) ≤ (t.size : Int) - 1 := by omega
  have h2 : (t.size : Int) - 1 < t.size := by omega
  have h3 : (t.size : Int) ≤ 1000 := by omega
  have h4 : ((t.size : Int) - 1).toNat = n := by omega
  clear hc h
  go_enter Tryd.func40, Tryd.ntmps40
  go_wp2
  go_ret2
  exact ⟨rfl, rfl⟩
theorem last_of (s : ByteArray) (j : Nat) (h : j < s.size) : ∀ h2 : j < (s.extract 0 (j + 1)).size, (s.extract 0 (j + 1))[j] = s[j] := by
  intro h2
  rw [ByteArray.getElem_extract]
  simp
set_option maxRecDepth 20000 in
set_option maxHeartbeats 1600000 in
theorem rsplitspace (s : ByteArray) (hs : s.size ≤ 400) (hl : Low s) (w : World) :
    Calls Tryd.prog 30 #[.string s, .int .i64 400] w fun e w' => ∃ v, e = .returned v ∧ OwnS w' w.heap.size v (fields s.data.toList) ∧ Below w.heap.size w w' := by
  obtain ⟨i0, hi, hz0, hz1, hz2⟩ := info_parts Tryd.infoStr
  obtain ⟨W0, hmk0, hown0, hg0⟩ := run_make_own (P := Tryd.prog) w w.heap.size 27 9 i0 _ 1 Tryd.underlying27 hi hz0 hz1 .i64 .i64 401 (by rw [hz2]; decide) (by unfold maxLen; decide) (Nat.le_refl _)
  have hmk : (Instr.makeSlice 27 (.int .i64 0) (.int .i64 401)).run Tryd.prog w = .ok (.slice (some ⟨w.heap.size, 0, none⟩) 0 401) W0 := hmk0
  have hb0 : Below w.heap.size w W0 := (Below.refl _ _).grown hg0 (Nat.le_refl _) (fun k hk => by cases hk)
  clear hmk0 hg0
  have HL := Lib.hid hl
  clear hl
  have hlen : s.data.toList.length = s.size := by simp
  have HN := Lib.hid hlen
  have hst : Bwd s.data.toList s.size (-1) [] := by rw [← hlen]; exact bwd_start _
  have HST := Lib.hid hst
  clear hlen hst
  go_enter Tryd.func30, Tryd.ntmps30
  go_wp2
  clear hmk
  go_loopw [5, 6, 7] (fun v en iv wr => ∃ (i : Nat) (x : Int) (fs : List (List UInt8)), i ≤ s.size ∧ en = .int .i64 x ∧ iv = .int .i64 i ∧ Bwd s.data.toList i x fs ∧ OwnS wr w.heap.size v fs ∧ Below w.heap.size w wr)
    (fun _ _ iv _ => (intOf iv).toNat)
  case atStart => exact ⟨s.size, -1, [], Nat.le_refl _, rfl, rfl, HST.out, hown0, hb0⟩
  case round =>
    obtain ⟨i, x, fs, hi', rfl, rfl, hF, hown, hb⟩ := hrel
    obtain ⟨A5, c5, rfl⟩ := hown.shape
    have hfl := bwd_len (by have := HN.out; omega) hF
    rcases Nat.eq_zero_or_pos i with rfl | hpos
    · go_upto_if 48 with fail
      go_cut [5] (fun s5 wx => ∃ (v : Value) (L : List (List UInt8)), s5 = v ∧ L.length ≤ 400 ∧ L.reverse = fields s.data.toList ∧ OwnS wx w.heap.size v L ∧ Below w.heap.size w wx)
      case first =>
        rcases bwd_cases hF with rfl | ⟨k, rfl, hk, hkl⟩
        · have hfin := Lib.hid (bwd_end1 hF)
          clear hF
          go_wp2
          go_meet
          exact ⟨_, fs, rfl, by have := HN.out; omega, hfin.out, hown, hb⟩
        · have hfin := Lib.hid (bwd_end2 hF)
          have hfl2 : fs.length < 400 := by have := HN.out; omega
          have hks : k ≤ s.size := by have := HN.out; omega
          have hz1' := hb.size
          have HE := Lib.hid (extract_list s 0 k)
          clear hF hfl hkl
          go_wp2_with (at_builtin; refine wpList_append_one rfl (.tmp 49) (.tmp 53) 27 rfl _ w.heap.size 9 i0 _ 16 Tryd.underlying27 hi hz0 hz1 hz2 rfl _ fs.length _ hown rfl (.string (s.extract 0 k)) rfl rfl rfl (by unfold maxLen; omega) (by omega) hz1' ?_)
          intro v2 W2 hown2 hb2 hg2
          rw [HE.out] at hown2
          have hown3 := OwnS.more hown2
          have hb3 := hb.trans hb2
          clear hown hown2 hb hb2 hg2 hz1'
          go_wp2
          go_meet
          exact ⟨_, _, rfl, by simp; omega, hfin.out, hown3, hb3⟩
      case rest =>
        obtain ⟨v, L, rfl, hL, hrev, hown, hb⟩ := hcut
        obtain ⟨A, c, rfl⟩ := hown.shape
        have HR := Lib.hid hrev
        have hown0 : wc.ownsRow w.heap.size 9 1 (.slice A L.length c) L.length (texts (revk L 0)) := by rw [revk_zero]; exact hown
        clear hrev hown
        go_wp2
        go_loopw [11] (fun iv wr => ∃ k : Nat, 2 * k ≤ L.length ∧ iv = .int .i64 k ∧ wr.ownsRow w.heap.size 9 1 (.slice A L.length c) L.length (texts (revk L k)) ∧ Below w.heap.size w wr)
          (fun iv _ => L.length / 2 - (intOf iv).toNat)
        case atStart => exact ⟨0, by omega, rfl, hown0, hb⟩
        case round =>
          obtain ⟨k, hk2, rfl, hown, hb⟩ := hrel
          by_cases hlt : 2 * k + 1 < L.length
          · have hlt' : (k : Int) < (L.length : Int) / 2 := by omega
            rcases hown.2 with ⟨_, h0⟩ | ⟨g, cap, cur, hv, hBg, _⟩
            · omega
            · injection hv with hA _ hc2
              subst hA
              subst hc2
              obtain ⟨a, ha⟩ : ∃ a, L[k]? = some a := ⟨_, List.getElem?_eq_getElem (by omega)⟩
              obtain ⟨b, hbb⟩ : ∃ b, L[L.length - 1 - k]? = some b := ⟨_, List.getElem?_eq_getElem (by omega)⟩
              have hm : ((L.length : Int) - 1 - (k : Int)).toNat = L.length - 1 - k := by omega
              have c1 : wr.cell? ⟨g, k, none⟩ = some (.string ⟨a.toArray⟩) := by
                rw [hown.cellAt k (by omega), texts, List.getElem?_map, revk_mid (by omega) (by omega) (by omega), ha]; rfl
              have c2 : wr.cell? ⟨g, L.length - 1 - k, none⟩ = some (.string ⟨b.toArray⟩) := by
                rw [hown.cellAt (L.length - 1 - k) (by omega), texts, List.getElem?_map, revk_mid (by omega) (by omega) (by omega), hbb]; rfl
              have f1 := hown.frozenAt k
              have f2 := hown.frozenAt (L.length - 1 - k)
              have hn1 : ¬ k = L.length - 1 - k := by omega
              have hn2 : ¬ L.length - 1 - k = k := by omega
              have Ha := Lib.hid ha
              have Hbb := Lib.hid hbb
              have Hm := Lib.hid hm
              have b1 : (0 : Int) ≤ (L.length : Int) - 1 - (k : Int) := by omega
              have b2 : (L.length : Int) - 1 - (k : Int) < (L.length : Int) := by omega
              clear ha hbb hm hlt
              go_wp2
              go_region
              go_wp2
              go_roundw
              case rel =>
                have e1 := (hown.stored k (.string ⟨b.toArray⟩)).1
                have g1 := (hown.stored k (.string ⟨b.toArray⟩)).2
                have e2 := (e1.stored (L.length - 1 - k) (.string ⟨a.toArray⟩)).1
                have g2 := (e1.stored (L.length - 1 - k) (.string ⟨a.toArray⟩)).2
                have e3 : ((texts (revk L k)).set k (.string ⟨b.toArray⟩)).set (L.length - 1 - k) (.string ⟨a.toArray⟩) = texts (revk L (k + 1)) := by
                  rw [← revk_step (by omega) Ha.out Hbb.out]
                  simp [texts, List.map_set]
                rw [e3] at e2
                have hb2 := (hb.grown g1 hb.size (fun x hx => by injection hx with hx; omega)).grown g2 (by simpa using hb.size) (fun x hx => by injection hx with hx; omega)
                repeat apply Exists.intro
                exact ⟨⟨k + 1, by omega, by go_num, e2, hb2.drew⟩, rfl⟩
              case measure => simp [intOf]; omega
          · have hlt' : ¬ (k : Int) < (L.length : Int) / 2 := by omega
            have HF := Lib.hid (revk_end (L := L) (k := k) (by omega))
            clear hlt
            go_wp2
            go_ret
            refine ⟨_, rfl, ?_, hb⟩
            rw [← HR.out, ← HF.out]
            unfold OwnS
            rw [revk_len]
            exact hown
    · obtain ⟨j, rfl⟩ : ∃ j, i = j + 1 := ⟨i - 1, by omega⟩
      have hj : j < s.size := by omega
      have hc := HL.out j hj
      have hpl : j < s.data.toList.length := by have := HN.out; omega
      have HG := Lib.hid (show s.data.toList[j] = s[j] from rfl)
      rcases bwd_cases hF with rfl | ⟨k, rfl, hk, hkl⟩
      · cases hs : sp s[j] with
        | true =>
          have HF := Lib.hid (bwd_sp1 hpl hF (by rw [HG.out]; exact hs))
          have Hs := Lib.hid hs
          clear hF hs hfl
          go_wp2_with fail
          refine (last_ascii _ j (by simp; omega) (by omega) s[j] (last_of s j hj) hc _).mono ?_
          rintro e w' ⟨rfl, rfl⟩
          go_wp2_with fail
          refine (space_ascii s[j] hc _).mono ?_
          rintro e w' ⟨rfl, rfl⟩
          rw [Hs.out]
          go_wp2
          go_roundw
          case rel => exact ⟨j, -1, fs, by omega, rfl, by go_num, HF.out, hown, hb⟩
          case measure => simp [intOf]
        | false =>
          have HF := Lib.hid (bwd_ns1 hpl hF (by rw [HG.out]; exact hs))
          have Hs := Lib.hid hs
          clear hF hs hfl
          go_wp2_with fail
          refine (last_ascii _ j (by simp; omega) (by omega) s[j] (last_of s j hj) hc _).mono ?_
          rintro e w' ⟨rfl, rfl⟩
          go_wp2_with fail
          refine (space_ascii s[j] hc _).mono ?_
          rintro e w' ⟨rfl, rfl⟩
          rw [Hs.out]
          go_wp2
          go_roundw
          case rel => exact ⟨j, _, fs, by omega, rfl, by go_num, HF.out, hown, hb⟩
          case measure => simp [intOf]
      · cases hs : sp s[j] with
        | true =>
          have HF := Lib.hid (bwd_sp2 hpl hF (by rw [HG.out]; exact hs))
          have Hs := Lib.hid hs
          have hmx : ((fs.length : Int) == 400) = false := by simp; have := HN.out; omega
          have hfl2 : fs.length < 400 := by have := HN.out; omega
          have hks : k ≤ s.size := by have := HN.out; omega
          have hz1' := hb.size
          have HE := Lib.hid (extract_list s (j + 1) k)
          clear hF hs hfl hkl
          go_wp2_with fail
          refine (last_ascii _ j (by simp; omega) (by omega) s[j] (last_of s j hj) hc _).mono ?_
          rintro e w' ⟨rfl, rfl⟩
          go_wp2_with fail
          refine (space_ascii s[j] hc _).mono ?_
          rintro e w' ⟨rfl, rfl⟩
          rw [Hs.out]
          go_wp2_with (at_builtin; refine wpList_append_one rfl (.tmp 34) (.tmp 39) 27 rfl _ w.heap.size 9 i0 _ 16 Tryd.underlying27 hi hz0 hz1 hz2 rfl _ fs.length _ hown rfl (.string (s.extract (j + 1) k)) rfl rfl rfl (by unfold maxLen; omega) (by omega) hz1' ?_)
          intro v2 W2 hown2 hb2 hg2
          rw [HE.out] at hown2
          have hown3 := OwnS.more hown2
          have hb3 := hb.trans hb2
          clear hown hown2 hb hb2 hg2 hz1'
          go_wp2
          go_roundw
          case rel => exact ⟨j, -1, fs ++ [(s.data.toList.take k).drop (j + 1)], by omega, rfl, by go_num, HF.out, hown3, hb3⟩
          case measure => simp [intOf]
        | false =>
          have HF := Lib.hid (bwd_ns2 hpl hF (by rw [HG.out]; exact hs))
          have Hs := Lib.hid hs
          clear hF hs hfl hkl
          go_wp2_with fail
          refine (last_ascii _ j (by simp; omega) (by omega) s[j] (last_of s j hj) hc _).mono ?_
          rintro e w' ⟨rfl, rfl⟩
          go_wp2_with fail
          refine (space_ascii s[j] hc _).mono ?_
          rintro e w' ⟨rfl, rfl⟩
          rw [Hs.out]
          go_wp2
          go_roundw
          case rel => exact ⟨j, _, fs, by omega, rfl, by go_num, HF.out, hown, hb⟩
          case measure => simp [intOf]
end Go.Proofs.YtkddmiamdpbgiaaDoor
