/- The reference's scanner: the letters ahead of a literal; the next token. -/
import Derived.Test.YtghendoiohfolaaGreatDoorScanLit3
namespace Go.Proofs.YtghendoiohfolaaGreatDoor
set_option linter.unusedSimpArgs false
set_option linter.unusedVariables false
set_option linter.unnecessarySimpa false
open Go.RowKit
theorem literal_any {w : World} {X B0 : Nat} {s : ByteArray} {ln cl : Int} {bg : Bool} {bk ov : Value} (wd : Nat) (hwd : wd = 1 ∨ wd = 3) (a B : List UInt8) (q : UInt8) (m : Nat) (xs : List Value) (h : Sc w X s 0 ln cl bg bk ov 2) (ho : Outs w B0 ov m xs) (hBw : B0 ≤ w.heap.size) (hm : m ≤ 1000)
    (hL : s.data.toList = litL a wd q B ++ [10]) (hal : a.length ≤ 10) (hq : q = 34 ∨ q = 39) (hB : Body q B) (hp : PlainL B) :
    Calls Tryz.prog 27 #[.pointer (some ⟨X, 0, none⟩), .int .i64 a.length] w (LitPost X B0 s (a.length + 2 * wd + B.length) (a.contains 114) (a.contains 98) bg bk ov m xs B w) := by
  rcases hwd with rfl | rfl
  · exact literal_1 a B q m xs h ho hBw hm hL hal hq hB hp
  · exact literal_3 a B q m xs h ho hBw hm hL hal hq hB hp
theorem letter_yes (c : UInt8) (hc : c = 114 ∨ c = 98) (w : World) : Calls Tryz.prog 25 #[.int .u8 (c.toNat : Int)] w fun e w' => e = .returned (.bool true) ∧ w = w' := by
  rcases hc with rfl | rfl
  · show Calls _ _ #[.int .u8 114] _ _
    go_enter Tryz.func25, Tryz.ntmps25
    go_wp2
    go_ret
    exact ⟨rfl, rfl⟩
  · show Calls _ _ #[.int .u8 98] _ _
    go_enter Tryz.func25, Tryz.ntmps25
    go_wp2
    go_ret
    exact ⟨rfl, rfl⟩
theorem letter_no (c : UInt8) (hc : c = 34 ∨ c = 39) (w : World) : Calls Tryz.prog 25 #[.int .u8 (c.toNat : Int)] w fun e w' => e = .returned (.bool false) ∧ w = w' := by
  rcases hc with rfl | rfl
  · show Calls _ _ #[.int .u8 34] _ _
    go_enter Tryz.func25, Tryz.ntmps25
    go_wp2
    go_ret
    exact ⟨rfl, rfl⟩
  · show Calls _ _ #[.int .u8 39] _ _
    go_enter Tryz.func25, Tryz.ntmps25
    go_wp2
    go_ret
    exact ⟨rfl, rfl⟩
theorem digit_no (c : UInt8) (hc : c = 34 ∨ c = 39 ∨ c = 114 ∨ c = 98) (w : World) : Calls Tryz.prog 23 #[.int .u8 (c.toNat : Int)] w fun e w' => e = .returned (.bool false) ∧ w = w' := by
  rcases hc with rfl | rfl | rfl | rfl
  · show Calls _ _ #[.int .u8 34] _ _
    go_enter Tryz.func23, Tryz.ntmps23
    go_wp2
    go_ret
    exact ⟨rfl, rfl⟩
  · show Calls _ _ #[.int .u8 39] _ _
    go_enter Tryz.func23, Tryz.ntmps23
    go_wp2
    go_ret
    exact ⟨rfl, rfl⟩
  · show Calls _ _ #[.int .u8 114] _ _
    go_enter Tryz.func23, Tryz.ntmps23
    go_wp2
    go_ret
    exact ⟨rfl, rfl⟩
  · show Calls _ _ #[.int .u8 98] _ _
    go_enter Tryz.func23, Tryz.ntmps23
    go_wp2
    go_ret
    exact ⟨rfl, rfl⟩
theorem bytes_beq (t : ByteArray) (l : List UInt8) (a : List UInt8) (ht : t.data.toList = a) : (t.toList == (ByteArray.mk l.toArray).toList) = (a == l) := by
  rw [Lib.toList_data, Lib.toList_data, ht]
theorem LitPost.only {X B : Nat} {s : ByteArray} {n : Nat} {raw by_ bg : Bool} {bk ov : Value} {m : Nat} {xs : List Value} {t : List UInt8} {w w0 w' : World} {e : Ending} (h : LitPost X B s n raw by_ bg bk ov m xs t w e w') (h0 : Only (fun k => k = X ∨ ov.ownBlock = some k) w0 w) : LitPost X B s n raw by_ bg bk ov m xs t w0 e w' := by
  have key : Only (fun k => k = X ∨ ov.ownBlock = some k) w w' → Only (fun k => k = X ∨ ov.ownBlock = some k) w0 w' := fun h4 =>
    ⟨h4.os.trans h0.os, h4.tape.trans h0.tape, h4.output.trans h0.output, Nat.le_trans h0.size h4.size, fun i hi hs => (h4.block i (Nat.lt_of_lt_of_le hi h0.size) hs).trans (h0.block i hi hs)⟩
  rcases h with ⟨h1, h2, h3⟩ | ⟨h1, h2, h3⟩
  · exact .inl ⟨h1, key h2, h3⟩
  · exact .inr ⟨h1, key h2, h3⟩
theorem LitPost.ends {X B : Nat} {s : ByteArray} {n : Nat} {raw by_ bg : Bool} {bk ov : Value} {m : Nat} {xs : List Value} {t : List UInt8} {w w' : World} {e : Ending} (h : LitPost X B s n raw by_ bg bk ov m xs t w e w') : e = .returned (.tuple #[]) := by
  rcases h with h | h
  · exact h.1
  · exact h.1
set_option maxRecDepth 20000 in
set_option maxHeartbeats 8000000 in
theorem word_r {w : World} {X B0 : Nat} {s : ByteArray} {ln cl : Int} {bg : Bool} {bk ov : Value} (wd : Nat) (hwd : wd = 1 ∨ wd = 3) (B : List UInt8) (q : UInt8) (m : Nat) (xs : List Value) (h : Sc w X s 0 ln cl bg bk ov 2) (ho : Outs w B0 ov m xs) (hBw : B0 ≤ w.heap.size) (hm : m ≤ 1000)
    (hL : s.data.toList = litL [114] wd q B ++ [10]) (hq : q = 34 ∨ q = 39) (hB : Body q B) (hp : PlainL B) :
    Calls Tryz.prog 26 #[.pointer (some ⟨X, 0, none⟩)] w (LitPost X B0 s ([114].length + 2 * wd + B.length) (([114] : List UInt8).contains 114) (([114] : List UInt8).contains 98) bg bk ov m xs B w) := by
  have HLIT : Hid (∀ W : World, Sc W X s 0 ln cl bg bk ov 2 → Outs W B0 ov m xs → B0 ≤ W.heap.size → Calls Tryz.prog 27 #[.pointer (some ⟨X, 0, none⟩), .int .i64 1] W (LitPost X B0 s ([114].length + 2 * wd + B.length) (([114] : List UInt8).contains 114) (([114] : List UInt8).contains 98) bg bk ov m xs B W)) :=
    fun W h1 h2 h3 => literal_any wd hwd [114] B q m xs h1 h2 h3 hm hL (by decide) hq hB hp
  have HS := Lib.hid h
  have HO := Lib.hid ho
  have HBW := Lib.hid hBw
  have HQ := Lib.hid hq
  have hbl := hB.len
  have hsz : s.size = 1 + wd + wd + B.length + 1 := by
    have := congrArg List.length hL
    rw [List.length_append, litL_len] at this
    simp at this
    omega
  have hs1 : s.size ≤ 10000 := by omega
  have hs2 : (1 : Int) ≤ (s.size : Int) := by omega
  have hs3 : 1 ≤ s.size := by omega
  have HP0 : Hid (pk s.data.toList (0 + 1) = q) := by unfold Hid; rw [hL]; exact pk_open (j := 0) [10] (by omega) rfl
  obtain ⟨t, ht⟩ : ∃ t, t = s.extract 0 1 := ⟨_, rfl⟩
  have htl : t.data.toList = [114] := by
    rw [ht, extract_list, hL]
    have : ((litL [114] wd q B ++ [10]).take 1).drop 0 = [114] := by
      unfold litL
      rw [List.drop_zero, List.append_assoc, List.take_left' (by rfl)]
    rw [this]
  have e1 : t.toList = [114] := by rw [Lib.toList_data, htl]
  have hts := ht.symm
  obtain ⟨c0, c1, -, -, -, -, -, -, -⟩ := h.cells
  have qd : ((q.toNat : Int) == 34) = true ∨ (((q.toNat : Int) == 34) = false ∧ ((q.toNat : Int) == 39) = true) := by
    rcases hq with rfl | rfl
    · exact .inl rfl
    · exact .inr ⟨rfl, rfl⟩
  clear h ho hBw hL hB hp hq hsz ht htl hwd
  rcases qd with qd | ⟨qd, qd2⟩
  all_goals
    go_enter Tryz.func26, Tryz.ntmps26
    go_wp2_with fail
    refine wp_loop_rounds 1 ?_
    rw [rounds_succ]
    go_wp2_with fail
    refine (peek_any 0 1 HS.out (by omega) (by omega) (by omega)).mono ?_
    rw [HP0.out]
    rintro e w' ⟨rfl, m2, rfl⟩
    go_wp2_with fail
    refine (letter_no q HQ.out _).mono ?_
    rintro e w' ⟨rfl, rfl⟩
    go_wp2_with fail
    go_quiet (fail)
    go_wp2_with fail
    refine (peek_any 0 1 (HS.out.drewN _) (by omega) (by omega) (by omega)).mono ?_
    rw [HP0.out]
    rintro e w' ⟨rfl, m3, rfl⟩
    go_wp2_with fail
    refine (HLIT.out _ (HS.out.drewN _) (own_below HO.out (below_dn (Below.refl _ _) _)) HBW.out).mono ?_
    rintro e w5 hpost
    obtain rfl := hpost.ends
    have HPOST := Lib.hid (hpost.only ((Only.refl _ w).drewN _))
    clear hpost
    go_wp2
    refine bodyPost_ret (results_none rfl _ _ _) rfl ?_
    exact HPOST.out
set_option maxRecDepth 20000 in
set_option maxHeartbeats 8000000 in
theorem word_b {w : World} {X B0 : Nat} {s : ByteArray} {ln cl : Int} {bg : Bool} {bk ov : Value} (wd : Nat) (hwd : wd = 1 ∨ wd = 3) (B : List UInt8) (q : UInt8) (m : Nat) (xs : List Value) (h : Sc w X s 0 ln cl bg bk ov 2) (ho : Outs w B0 ov m xs) (hBw : B0 ≤ w.heap.size) (hm : m ≤ 1000)
    (hL : s.data.toList = litL [98] wd q B ++ [10]) (hq : q = 34 ∨ q = 39) (hB : Body q B) (hp : PlainL B) :
    Calls Tryz.prog 26 #[.pointer (some ⟨X, 0, none⟩)] w (LitPost X B0 s ([98].length + 2 * wd + B.length) (([98] : List UInt8).contains 114) (([98] : List UInt8).contains 98) bg bk ov m xs B w) := by
  have HLIT : Hid (∀ W : World, Sc W X s 0 ln cl bg bk ov 2 → Outs W B0 ov m xs → B0 ≤ W.heap.size → Calls Tryz.prog 27 #[.pointer (some ⟨X, 0, none⟩), .int .i64 1] W (LitPost X B0 s ([98].length + 2 * wd + B.length) (([98] : List UInt8).contains 114) (([98] : List UInt8).contains 98) bg bk ov m xs B W)) :=
    fun W h1 h2 h3 => literal_any wd hwd [98] B q m xs h1 h2 h3 hm hL (by decide) hq hB hp
  have HS := Lib.hid h
  have HO := Lib.hid ho
  have HBW := Lib.hid hBw
  have HQ := Lib.hid hq
  have hbl := hB.len
  have hsz : s.size = 1 + wd + wd + B.length + 1 := by
    have := congrArg List.length hL
    rw [List.length_append, litL_len] at this
    simp at this
    omega
  have hs1 : s.size ≤ 10000 := by omega
  have hs2 : (1 : Int) ≤ (s.size : Int) := by omega
  have hs3 : 1 ≤ s.size := by omega
  have HP0 : Hid (pk s.data.toList (0 + 1) = q) := by unfold Hid; rw [hL]; exact pk_open (j := 0) [10] (by omega) rfl
  obtain ⟨t, ht⟩ : ∃ t, t = s.extract 0 1 := ⟨_, rfl⟩
  have htl : t.data.toList = [98] := by
    rw [ht, extract_list, hL]
    have : ((litL [98] wd q B ++ [10]).take 1).drop 0 = [98] := by
      unfold litL
      rw [List.drop_zero, List.append_assoc, List.take_left' (by rfl)]
    rw [this]
  have e1 : t.toList = [98] := by rw [Lib.toList_data, htl]
  have hts := ht.symm
  obtain ⟨c0, c1, -, -, -, -, -, -, -⟩ := h.cells
  have qd : ((q.toNat : Int) == 34) = true ∨ (((q.toNat : Int) == 34) = false ∧ ((q.toNat : Int) == 39) = true) := by
    rcases hq with rfl | rfl
    · exact .inl rfl
    · exact .inr ⟨rfl, rfl⟩
  clear h ho hBw hL hB hp hq hsz ht htl hwd
  rcases qd with qd | ⟨qd, qd2⟩
  all_goals
    go_enter Tryz.func26, Tryz.ntmps26
    go_wp2_with fail
    refine wp_loop_rounds 1 ?_
    rw [rounds_succ]
    go_wp2_with fail
    refine (peek_any 0 1 HS.out (by omega) (by omega) (by omega)).mono ?_
    rw [HP0.out]
    rintro e w' ⟨rfl, m2, rfl⟩
    go_wp2_with fail
    refine (letter_no q HQ.out _).mono ?_
    rintro e w' ⟨rfl, rfl⟩
    go_wp2_with fail
    go_quiet (fail)
    go_wp2_with fail
    refine (peek_any 0 1 (HS.out.drewN _) (by omega) (by omega) (by omega)).mono ?_
    rw [HP0.out]
    rintro e w' ⟨rfl, m3, rfl⟩
    go_wp2_with fail
    refine (HLIT.out _ (HS.out.drewN _) (own_below HO.out (below_dn (Below.refl _ _) _)) HBW.out).mono ?_
    rintro e w5 hpost
    obtain rfl := hpost.ends
    have HPOST := Lib.hid (hpost.only ((Only.refl _ w).drewN _))
    clear hpost
    go_wp2
    refine bodyPost_ret (results_none rfl _ _ _) rfl ?_
    exact HPOST.out
set_option maxRecDepth 20000 in
set_option maxHeartbeats 8000000 in
theorem word_rb {w : World} {X B0 : Nat} {s : ByteArray} {ln cl : Int} {bg : Bool} {bk ov : Value} (wd : Nat) (hwd : wd = 1 ∨ wd = 3) (B : List UInt8) (q : UInt8) (m : Nat) (xs : List Value) (h : Sc w X s 0 ln cl bg bk ov 2) (ho : Outs w B0 ov m xs) (hBw : B0 ≤ w.heap.size) (hm : m ≤ 1000)
    (hL : s.data.toList = litL [114, 98] wd q B ++ [10]) (hq : q = 34 ∨ q = 39) (hB : Body q B) (hp : PlainL B) :
    Calls Tryz.prog 26 #[.pointer (some ⟨X, 0, none⟩)] w (LitPost X B0 s ([114, 98].length + 2 * wd + B.length) (([114, 98] : List UInt8).contains 114) (([114, 98] : List UInt8).contains 98) bg bk ov m xs B w) := by
  have HLIT : Hid (∀ W : World, Sc W X s 0 ln cl bg bk ov 2 → Outs W B0 ov m xs → B0 ≤ W.heap.size → Calls Tryz.prog 27 #[.pointer (some ⟨X, 0, none⟩), .int .i64 2] W (LitPost X B0 s ([114, 98].length + 2 * wd + B.length) (([114, 98] : List UInt8).contains 114) (([114, 98] : List UInt8).contains 98) bg bk ov m xs B W)) :=
    fun W h1 h2 h3 => literal_any wd hwd [114, 98] B q m xs h1 h2 h3 hm hL (by decide) hq hB hp
  have HS := Lib.hid h
  have HO := Lib.hid ho
  have HBW := Lib.hid hBw
  have HQ := Lib.hid hq
  have hbl := hB.len
  have hsz : s.size = 2 + wd + wd + B.length + 1 := by
    have := congrArg List.length hL
    rw [List.length_append, litL_len] at this
    simp at this
    omega
  have hs1 : s.size ≤ 10000 := by omega
  have hs2 : (2 : Int) ≤ (s.size : Int) := by omega
  have hs3 : 2 ≤ s.size := by omega
  have HP0 : Hid (pk s.data.toList (0 + 2) = q) := by unfold Hid; rw [hL]; exact pk_open (j := 0) [10] (by omega) rfl
  obtain ⟨cb, hcb⟩ : ∃ cb : UInt8, cb = 98 := ⟨_, rfl⟩
  have HP1 : Hid (pk s.data.toList (0 + 1) = cb) := by unfold Hid; rw [hL, hcb]; exact pk_ahead (i := 1) [10] (by decide)
  have HCB := Lib.hid hcb
  clear hcb
  obtain ⟨t, ht⟩ : ∃ t, t = s.extract 0 2 := ⟨_, rfl⟩
  have htl : t.data.toList = [114, 98] := by
    rw [ht, extract_list, hL]
    have : ((litL [114, 98] wd q B ++ [10]).take 2).drop 0 = [114, 98] := by
      unfold litL
      rw [List.drop_zero, List.append_assoc, List.take_left' (by rfl)]
    rw [this]
  have e1 : t.toList = [114, 98] := by rw [Lib.toList_data, htl]
  have hts := ht.symm
  obtain ⟨c0, c1, -, -, -, -, -, -, -⟩ := h.cells
  have qd : ((q.toNat : Int) == 34) = true ∨ (((q.toNat : Int) == 34) = false ∧ ((q.toNat : Int) == 39) = true) := by
    rcases hq with rfl | rfl
    · exact .inl rfl
    · exact .inr ⟨rfl, rfl⟩
  clear h ho hBw hL hB hp hq hsz ht htl hwd
  rcases qd with qd | ⟨qd, qd2⟩
  all_goals
    go_enter Tryz.func26, Tryz.ntmps26
    go_wp2_with fail
    refine wp_loop_rounds 2 ?_
    rw [rounds_succ]
    go_wp2_with fail
    refine (peek_any 0 1 HS.out (by omega) (by omega) (by omega)).mono ?_
    rw [HP1.out]
    rintro e w' ⟨rfl, m1, rfl⟩
    go_wp2_with fail
    refine (letter_yes cb (.inr HCB.out) _).mono ?_
    rintro e w' ⟨rfl, rfl⟩
    go_wp2_with fail
    rw [rounds_succ]
    go_wp2_with fail
    refine (peek_any 0 2 (HS.out.drewN _) (by omega) (by omega) (by omega)).mono ?_
    rw [HP0.out]
    rintro e w' ⟨rfl, m2, rfl⟩
    go_wp2_with fail
    refine (letter_no q HQ.out _).mono ?_
    rintro e w' ⟨rfl, rfl⟩
    go_wp2_with fail
    go_quiet (fail)
    go_wp2_with fail
    refine (peek_any 0 2 (HS.out.drewN _) (by omega) (by omega) (by omega)).mono ?_
    rw [HP0.out]
    rintro e w' ⟨rfl, m3, rfl⟩
    go_wp2_with fail
    refine (HLIT.out _ (HS.out.drewN _) (own_below HO.out (below_dn (Below.refl _ _) _)) HBW.out).mono ?_
    rintro e w5 hpost
    obtain rfl := hpost.ends
    have HPOST := Lib.hid (hpost.only ((Only.refl _ w).drewN _))
    clear hpost
    go_wp2
    refine bodyPost_ret (results_none rfl _ _ _) rfl ?_
    exact HPOST.out
end Go.Proofs.YtghendoiohfolaaGreatDoor
