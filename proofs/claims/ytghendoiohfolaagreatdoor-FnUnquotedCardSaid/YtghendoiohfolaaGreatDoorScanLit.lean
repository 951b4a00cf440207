/- The reference's scanner: a literal. -/
import Derived.Test.YtghendoiohfolaaGreatDoorScanVal
namespace Go.Proofs.YtghendoiohfolaaGreatDoor
set_option linter.unusedSimpArgs false
set_option linter.unusedVariables false
set_option linter.unnecessarySimpa false
open Go.RowKit
/-- What a literal leaves: open (bytes with a sign beyond ASCII), or what its body denotes. -/
def LitPost (X B : Nat) (s : ByteArray) (n : Nat) (raw by_ bg : Bool) (bk ov : Value) (m : Nat) (xs : List Value) (t : List UInt8) (w : World) (e : Ending) (w' : World) : Prop :=
  (e = .returned (.tuple #[]) ∧ Only (fun k => k = X ∨ ov.ownBlock = some k) w w' ∧ by_ = true ∧ (∃ c ∈ t, 128 ≤ c.toNat) ∧ ∃ l c, Sc w' X s 0 l c bg bk ov 0) ∨
  ValPost X B s 0 n raw by_ bg bk ov m xs t w e w'
theorem contains_snoc (a : List UInt8) (k : Nat) (x : UInt8) (h : k < a.length) : (a.take (k + 1)).contains x = ((a.take k).contains x || pk a k == x) := by
  rw [List.take_succ_eq_append_getElem h, List.contains_append, pk_at h]
  congr 1
  simp only [List.contains_cons, List.contains_nil, Bool.or_false]
  exact Bool.beq_comm ..
theorem beq_int (c d : UInt8) : ((c.toNat : Int) == (d.toNat : Int)) = (c == d) := by
  rw [Bool.eq_iff_iff, beq_iff_eq, beq_iff_eq]
  exact ⟨fun e => UInt8.toNat_inj.1 (Int.ofNat_inj.1 e), fun e => by rw [e]⟩
theorem beq_nat (c d : UInt8) : (c.toNat == d.toNat) = (c == d) := by
  rw [Bool.eq_iff_iff, beq_iff_eq, beq_iff_eq]
  exact UInt8.toNat_inj
theorem beq_lit (c : UInt8) (n : Nat) (hn : n < 256) (h : c.toNat ≠ n) : ((c.toNat : Int) == (n : Int)) = false := by
  rw [beq_eq_false_iff_ne]
  exact fun e => h (Int.ofNat_inj.1 e)
def LitI (a : List UInt8) (w : World) (rv bv kv : Value) (wr : World) : Prop :=
  ∃ k d : Nat, k ≤ a.length ∧ kv = .int .i64 k ∧ rv = .bool ((a.take k).contains 114) ∧ bv = .bool ((a.take k).contains 98) ∧ wr = w.drewN d
def LitJ (F : Nat) (B : List UInt8) (w : World) (nv : Value) (wr : World) : Prop :=
  ∃ j i d : Nat, j ≤ B.length ∧ nv = .int .i64 i ∧ Hid (i = F + j) ∧ wr = w.drewN d
set_option maxRecDepth 20000 in
set_option maxHeartbeats 8000000 in
theorem literal_1 {w : World} {X B0 : Nat} {s : ByteArray} {ln cl : Int} {bg : Bool} {bk ov : Value} (a B : List UInt8) (q : UInt8) (m : Nat) (xs : List Value) (h : Sc w X s 0 ln cl bg bk ov 2) (ho : Outs w B0 ov m xs) (hBw : B0 ≤ w.heap.size) (hm : m ≤ 1000)
    (hL : s.data.toList = litL a 1 q B ++ [10]) (hal : a.length ≤ 10) (hq : q = 34 ∨ q = 39) (hB : Body q B) (hp : PlainL B) :
    Calls Tryz.prog 27 #[.pointer (some ⟨X, 0, none⟩), .int .i64 a.length] w (LitPost X B0 s (a.length + 2 + B.length) (a.contains 114) (a.contains 98) bg bk ov m xs B w) := by
  have HS := Lib.hid h
  have HO := Lib.hid ho
  have HBW := Lib.hid hBw
  have HL := Lib.hid hL
  have HB := Lib.hid hB
  have HP := Lib.hid hp
  have hbl := hB.len
  have hsz : s.size = a.length + 3 + B.length := by
    have := congrArg List.length hL
    rw [List.length_append, litL_len] at this
    simp at this
    omega
  have hXl := h.lt
  have q1 : q.toNat = 34 ∨ q.toNat = 39 := by rcases hq with rfl | rfl <;> simp
  have q0 : ((q.toNat : Int) == 0) = false := beq_lit q 0 (by omega) (by omega)
  have q10 : ((q.toNat : Int) == 10) = false := beq_lit q 10 (by omega) (by omega)
  have q92 : ((q.toNat : Int) == 92) = false := beq_lit q 92 (by omega) (by omega)
  have q128 : decide ((128 : Int) ≤ (q.toNat : Int)) = false := by simp; omega
  have qq : ((q.toNat : Int) == (q.toNat : Int)) = true := by simp
  obtain ⟨A, hA⟩ : ∃ A, A = a.length := ⟨_, rfl⟩
  rw [← hA] at hsz hal ⊢
  have HA := Lib.hid hA
  have hsz1 : s.size ≤ A + 3 + B.length := by omega
  have hsz2 : A + 3 + B.length ≤ s.size := by omega
  clear h ho hBw hL hB hp hq hA q1 hsz
  obtain ⟨F, hF⟩ : ∃ F : Nat, (A : Int) + 1 = (F : Int) := ⟨A + 1, by omega⟩
  have HF : Hid (F = A + 1) := by unfold Hid; omega
  have hFs : F + B.length ≤ s.size := by omega
  obtain ⟨raw, hraw⟩ : ∃ raw, raw = a.contains 114 := ⟨_, rfl⟩
  obtain ⟨by_, hby⟩ : ∃ by_, by_ = a.contains 98 := ⟨_, rfl⟩
  rw [← hraw, ← hby]
  have HRAW := Lib.hid hraw
  have HBY := Lib.hid hby
  clear hraw hby hF
  have HPO : Hid (∀ j, j < 1 → pk s.data.toList (0 + (A + j)) = q) := fun j hj => by rw [HL.out]; exact pk_open [10] hj (by rw [HA.out]; omega)
  have HPB : Hid (∀ j, j < B.length → pk s.data.toList (0 + (F + j)) = pk B j) := fun j hj => by rw [HL.out]; exact pk_body [10] hj (by rw [HF.out, HA.out]; omega)
  have HPC : Hid (∀ j, j < 1 → pk s.data.toList (0 + (F + B.length + j)) = q) := fun j hj => by rw [HL.out]; exact pk_close [10] hj (by rw [HF.out, HA.out]; omega)
  have HPE : Hid (pk s.data.toList (0 + (F + B.length + 1)) = 10) := by unfold Hid; rw [HL.out]; exact pk_behind (j := 0) [10] (by rw [HF.out, HA.out]; omega)
  go_enter Tryz.func27, Tryz.ntmps27
  go_wp2_with fail
  go_loopw [4, 5, 6, 13] (fun rv bv _ kv wr => LitI a w rv bv kv wr) (fun _ _ _ kv _ => A - (intOf kv).toNat)
  case atStart => exact ⟨0, 0, Nat.zero_le _, rfl, rfl, rfl, rfl⟩
  case round =>
    obtain ⟨k, d, hk, rfl, rfl, rfl, rfl⟩ := hrel
    rw [← HA.out] at hk
    by_cases hlt : k < A
    · have hpk : pk s.data.toList (0 + k) = pk a k := by rw [HL.out, Nat.zero_add]; exact pk_ahead [10] (by rw [← HA.out]; exact hlt)
      have hc1 := contains_snoc a k 114 (by rw [← HA.out]; exact hlt)
      have hc2 := contains_snoc a k 98 (by rw [← HA.out]; exact hlt)
      have b1 := beq_int (pk a k) 114
      have b2 := beq_int (pk a k) 98
      have b1' : (((pk a k).toNat : Int) == 114) = (pk a k == 114) := b1
      have b2' : (((pk a k).toNat : Int) == 98) = (pk a k == 98) := b2
      generalize (pk a k == 114) = x1 at hc1 b1'
      generalize (pk a k == 98) = x2 at hc2 b2'
      generalize hr1 : (a.take k).contains 114 = rk at hc1 ⊢
      generalize hr2 : (a.take k).contains 98 = bk2 at hc2 ⊢
      have HC1 := Lib.hid hc1
      have HC2 := Lib.hid hc2
      have HPK := Lib.hid hpk
      clear hc1 hc2 b1 b2 hr1 hr2 hpk
      rcases rk with _ | _ <;> rcases bk2 with _ | _
      all_goals
        go_wp2_with (go_at_call 20; refine (peek_any 0 k (HS.out.drewN _) (by omega) (by omega) (by omega)).mono ?_; rw [HPK.out]; rintro e w' ⟨rfl, mm, rfl⟩)
        go_roundw
        case rel =>
          refine ⟨k + 1, _, by rw [← HA.out]; omega, by go_num, ?_, ?_, rfl⟩
          · rw [HC1.out]; simp
          · rw [HC2.out]; simp
        case measure => simp [intOf]; omega
    · have hkA : k = A := by omega
      have e1 : a.take k = a := by rw [hkA, HA.out]; exact List.take_length ..
      rw [e1, ← HRAW.out, ← HBY.out]
      have hqr : ((10 : Int) == (q.toNat : Int)) = false := by rw [Bool.beq_comm]; exact q10
      have hP0 := HPO.out 0 (by omega)
      rw [Nat.add_zero] at hP0
      have HP0 := Lib.hid hP0
      clear hP0 hkA e1 hk
      have hA1 : (A : Int) + 1 = (F : Int) := by have := HF.out; omega
      obtain ⟨F1, hF1⟩ : ∃ F1 : Nat, (F : Int) + 1 = (F1 : Int) := ⟨F + 1, by omega⟩
      have hF1s : F1 ≤ s.size := by have := HF.out; omega
      obtain ⟨x0, hx0⟩ : ∃ x0, x0 = pk s.data.toList (0 + F) := ⟨_, rfl⟩
      obtain ⟨x1, hx1⟩ : ∃ x1, x1 = pk s.data.toList (0 + F1) := ⟨_, rfl⟩
      have hxx : (x0 == q) = false ∨ ((x0 == q) = true ∧ (x1 == q) = false) := by
        by_cases hb : B.length = 0
        · refine .inr ⟨?_, ?_⟩
          · have h := HPC.out 0 (by omega)
            rw [hb] at h
            rw [hx0, show 0 + F = 0 + (F + 0 + 0) by omega, h]
            exact beq_self_eq_true q
          · have h := HPE.out
            rw [hb] at h
            rw [hx1, show 0 + F1 = 0 + (F + 0 + 1) by omega, h, ← beq_int]
            exact hqr
        · refine .inl ?_
          have h := HPB.out 0 (by omega)
          rw [hx0, show 0 + F = 0 + (F + 0) by omega, h, beq_eq_false_iff_ne]
          exact (HB.out.at_ne (by omega)).1
      have HX0 := Lib.hid hx0
      have HX1 := Lib.hid hx1
      clear hx0 hx1
      rcases hxx with hxa | ⟨hxa, hxb⟩
      · have ia := (beq_int x0 q).trans hxa
        have na := (beq_nat x0 q).trans hxa
        go_wp2_with fail
        refine (peek_any 0 A (HS.out.drewN _) (by omega) (by omega) (by omega)).mono ?_
        rw [HP0.out]
        rintro e w' ⟨rfl, m1, rfl⟩
        go_wp2_with fail
        refine (peek_any 0 F (HS.out.drewN _) (by omega) (by omega) (by omega)).mono ?_
        rw [← HX0.out]
        rintro e w' ⟨rfl, m2, rfl⟩
        go_wp2_with fail
        clear ia na
        go_loopw [8, 11] (fun nv _ wr => LitJ F B w nv wr) (fun nv _ _ => F + B.length - (intOf nv).toNat)
        case atStart => exact ⟨0, F, _, Nat.zero_le _, rfl, by simp [Hid], rfl⟩
        case round =>
          obtain ⟨j, i, dd, hj, rfl, hij, rfl⟩ := hrel
          have hij2 : i = F + j := hij.out
          have his : i ≤ s.size := by omega
          by_cases hjl : j < B.length
          · have hpk := HPB.out j hjl
            rw [← hij2] at hpk
            have hpl := plain_at HP.out hjl
            have hne := HB.out.at_ne hjl
            have hbs := HB.out.bs hjl
            have hmem : pk B j ∈ B := by rw [pk_at hjl]; exact List.getElem_mem _
            obtain ⟨c, hc⟩ : ∃ c, c = pk B j := ⟨_, rfl⟩
            rw [← hc] at hpk hpl hne hbs hmem
            have HPK := Lib.hid hpk
            have c0 : ((c.toNat : Int) == 0) = false := beq_lit c 0 (by omega) (by omega)
            have c10 : ((c.toNat : Int) == 10) = false := beq_lit c 10 (by omega) (fun e => hne.2 (UInt8.toNat_inj.1 e))
            have cq : ((c.toNat : Int) == (q.toNat : Int)) = false := by rw [beq_int, beq_eq_false_iff_ne]; exact hne.1
            have cqn : (c.toNat == q.toNat) = false := by rw [beq_nat, beq_eq_false_iff_ne]; exact hne.1
            obtain ⟨i1, hi1⟩ : ∃ i1 : Nat, (i : Int) + 1 = (i1 : Int) := ⟨i + 1, by omega⟩
            have hi1' : i1 = i + 1 := by omega
            have HI1 := Lib.hid hi1'
            by_cases c92 : c = 92
            · have e92 : ((c.toNat : Int) == 92) = true := by rw [c92]; rfl
              have e128 : decide ((128 : Int) ≤ (c.toNat : Int)) = false := by rw [c92]; rfl
              have hj1 := hbs c92
              have hpk1 := HPB.out (j + 1) hj1
              rw [show F + (j + 1) = i1 by omega] at hpk1
              have hne1 := HB.out.at_ne hj1
              have HPK1 := Lib.hid hpk1
              have f10 : (((pk B (j + 1)).toNat : Int) == 10) = false := beq_lit _ 10 (by omega) (fun e => hne1.2 (UInt8.toNat_inj.1 e))
              obtain ⟨i2, hi2⟩ : ∃ i2 : Nat, (i : Int) + 2 = (i2 : Int) := ⟨i + 2, by omega⟩
              have hi2' : i2 = F + (j + 2) := by omega
              have HI2 := Lib.hid hi2'
              have hi1s : i1 ≤ s.size := by omega
              have HIJ : Hid (F + B.length - i2 < F + B.length - i) := by unfold Hid; omega
              clear hij2 hpk hpl hne hbs hmem hc c92 hpk1 hne1 hi1' hi2'
              go_wp2_with fail
              refine (peek_any 0 i (HS.out.drewN _) (by omega) (by omega) (by omega)).mono ?_
              rw [HPK.out]
              rintro e w' ⟨rfl, mm, rfl⟩
              go_wp2_with fail
              refine (peek_any 0 i1 (HS.out.drewN _) (by omega) (by omega) (by omega)).mono ?_
              rw [HPK1.out]
              rintro e w' ⟨rfl, mm2, rfl⟩
              go_wp2
              go_roundw
              case rel => exact ⟨j + 2, i2, _, by omega, by go_num, HI2, rfl⟩
              case measure => simp only [intOf]; exact HIJ.out
            · have e92 : ((c.toNat : Int) == 92) = false := beq_lit c 92 (by omega) (fun e => c92 (UInt8.toNat_inj.1 e))
              have hi1s : i1 ≤ s.size := by omega
              have HIJ : Hid (F + B.length - i1 < F + B.length - i) := by unfold Hid; omega
              have HI1F : Hid (i1 = F + (j + 1)) := by unfold Hid; omega
              by_cases c128 : 128 ≤ c.toNat
              · have e128 : decide ((128 : Int) ≤ (c.toNat : Int)) = true := by simp; omega
                have HMEM := Lib.hid hmem
                have HC128 := Lib.hid c128
                clear hij2 hpk hpl hne hbs hmem hc c92 hi1' c128
                rcases by_ with _ | _
                · go_wp2_with fail
                  refine (peek_any 0 i (HS.out.drewN _) (by omega) (by omega) (by omega)).mono ?_
                  rw [HPK.out]
                  rintro e w' ⟨rfl, mm, rfl⟩
                  go_wp2
                  go_roundw
                  case rel => exact ⟨j + 1, i1, _, by omega, by go_num, HI1F, rfl⟩
                  case measure => simp only [intOf]; exact HIJ.out
                · go_wp2_with fail
                  refine (peek_any 0 i (HS.out.drewN _) (by omega) (by omega) (by omega)).mono ?_
                  rw [HPK.out]
                  rintro e w' ⟨rfl, mm, rfl⟩
                  obtain ⟨w4, hw4⟩ : ∃ w4, w4 = (w.drewN dd).drewN mm := ⟨_, rfl⟩
                  have HS4 : Hid (Sc w4 X s 0 ln cl bg bk ov 2) := by rw [hw4]; exact (HS.out.drewN _).drewN _
                  have HON4 : Hid (Only (fun k => k = X ∨ ov.ownBlock = some k) w w4) := by rw [hw4]; exact ((Only.refl _ w).drewN _).drewN _
                  rw [← hw4]
                  clear hw4
                  obtain ⟨-, -, -, -, -, -, -, -, d8⟩ := HS4.out.cells
                  have f8 := HS4.out.fz 8
                  go_wp2
                  refine bodyPost_ret (results_none rfl _ _ _) rfl ?_
                  exact .inl ⟨rfl, HON4.out.setCell (p := ⟨X, 8, none⟩) (.inl (.inl rfl)) _, rfl, ⟨c, HMEM.out, HC128.out⟩, ln, cl, HS4.out.put8 _⟩
              · have e128 : decide ((128 : Int) ≤ (c.toNat : Int)) = false := by simp; omega
                clear hij2 hpk hpl hne hbs hmem hc c92 hi1' c128
                go_wp2_with fail
                refine (peek_any 0 i (HS.out.drewN _) (by omega) (by omega) (by omega)).mono ?_
                rw [HPK.out]
                rintro e w' ⟨rfl, mm, rfl⟩
                go_wp2
                go_roundw
                case rel => exact ⟨j + 1, i1, _, by omega, by go_num, HI1F, rfl⟩
                case measure => simp only [intOf]; exact HIJ.out
          · have hje : j = B.length := by omega
            have hpk := HPC.out 0 (by omega)
            rw [Nat.add_zero, ← hje, ← hij2] at hpk
            have HPK := Lib.hid hpk
            obtain ⟨t, ht⟩ : ∃ t, t = s.extract F i := ⟨_, rfl⟩
            have HT : Hid (t.data.toList = B) := by
              unfold Hid
              rw [ht, extract_list, HL.out, hij2, hje]
              have := litL_cut (a := a) (B := B) (wd := 1) (q := q) [10]
              rw [← HA.out, ← HF.out] at this
              exact this
            have hFi : F ≤ i := by omega
            have hFI : (F : Int) ≤ (i : Int) := by omega
            have hIS : (i : Int) ≤ (s.size : Int) := by omega
            have hF0 : (0 : Int) ≤ (F : Int) := by omega
            have hwF : IntKind.i64.wrap (F : Int) = (F : Int) := IntWalk.i64_in _ (by omega)
            have hwI : IntKind.i64.wrap (i : Int) = (i : Int) := IntWalk.i64_in _ (by omega)
            have hwF0 : IntKind.i64.wrap (0 + (F : Int)) = (F : Int) := by rw [Int.zero_add]; exact hwF
            have hwI0 : IntKind.i64.wrap (0 + (i : Int)) = (i : Int) := by rw [Int.zero_add]; exact hwI
            obtain ⟨n, hn⟩ : ∃ n : Nat, (i : Int) + 1 = (n : Int) := ⟨i + 1, by omega⟩
            have hwn : IntKind.i64.wrap ((i : Int) + 1) = (n : Int) := by rw [hn]; exact IntWalk.i64_in _ (by omega)
            have HNN : Hid (n = A + 2 + B.length) := by have := HF.out; unfold Hid; omega
            have hns : 0 + n ≤ s.size := by have := HNN.out; omega
            have htsz : t.size ≤ 2000 := by rw [ht]; simp; omega
            have HPT : Hid (PlainL t.data.toList) := by unfold Hid; rw [HT.out]; exact HP.out
            have hts := ht.symm
            clear hij2 hpk hjl hje ht hn
            go_wp2_with fail
            refine (peek_any 0 i (HS.out.drewN _) (by omega) (by omega) (by omega)).mono ?_
            rw [HPK.out]
            rintro e w' ⟨rfl, mm, rfl⟩
            obtain ⟨w4, hw4⟩ : ∃ w4, w4 = (w.drewN dd).drewN mm := ⟨_, rfl⟩
            have HS4 : Hid (Sc w4 X s 0 ln cl bg bk ov 2) := by rw [hw4]; exact (HS.out.drewN _).drewN _
            have HO4 : Hid (Outs w4 B0 ov m xs) := by rw [hw4]; exact own_below HO.out (below_dn (below_dn (Below.refl _ _) _) _)
            have HON4 : Hid (Only (fun k => k = X ∨ ov.ownBlock = some k) w w4) := by rw [hw4]; exact ((Only.refl _ w).drewN _).drewN _
            have HB4 : Hid (B0 ≤ w4.heap.size) := by rw [hw4]; exact HBW.out
            rw [← hw4]
            clear hw4
            obtain ⟨d0, d1, -, -, -, -, -, -, -⟩ := HS4.out.cells
            go_wp2_with fail
            go_still_tail 23, (by kernel_rfl)
            clear hwF hwI hwF0 hwI0 hwn hts
            go_wp2_with fail
            refine (value_any (w := w4.drew) 0 n m xs (HS4.out.drew) (World.ownsRow.drew HO4.out) HB4.out hm (by omega) hns htsz HPT.out).mono ?_
            rintro e w5 hpost
            have HPOST := Lib.hid hpost
            obtain ⟨rfl, -, -⟩ := hpost
            go_wp2
            refine bodyPost_ret (results_none rfl _ _ _) rfl ?_
            have h5 := HPOST.out
            rw [HT.out, HNN.out] at h5
            exact .inr ⟨rfl, ⟨h5.2.1.os.trans HON4.out.os, h5.2.1.tape.trans HON4.out.tape, h5.2.1.output.trans HON4.out.output, Nat.le_trans HON4.out.size h5.2.1.size, fun i hi hs => (h5.2.1.block i (Nat.lt_of_lt_of_le hi HON4.out.size) hs).trans (HON4.out.block i hi hs)⟩, h5.2.2⟩
      · have ia := (beq_int x0 q).trans hxa
        have na := (beq_nat x0 q).trans hxa
        have ib := (beq_int x1 q).trans hxb
        have nb := (beq_nat x1 q).trans hxb
        go_wp2_with fail
        refine (peek_any 0 A (HS.out.drewN _) (by omega) (by omega) (by omega)).mono ?_
        rw [HP0.out]
        rintro e w' ⟨rfl, m1, rfl⟩
        go_wp2_with fail
        refine (peek_any 0 F (HS.out.drewN _) (by omega) (by omega) (by omega)).mono ?_
        rw [← HX0.out]
        rintro e w' ⟨rfl, m2, rfl⟩
        go_wp2_with fail
        refine (peek_any 0 F1 (HS.out.drewN _) (by omega) (by omega) (by omega)).mono ?_
        rw [← HX1.out]
        rintro e w' ⟨rfl, m3, rfl⟩
        go_wp2_with fail
        clear ia na
        go_loopw [8, 11] (fun nv _ wr => LitJ F B w nv wr) (fun nv _ _ => F + B.length - (intOf nv).toNat)
        case atStart => exact ⟨0, F, _, Nat.zero_le _, rfl, by simp [Hid], rfl⟩
        case round =>
          obtain ⟨j, i, dd, hj, rfl, hij, rfl⟩ := hrel
          have hij2 : i = F + j := hij.out
          have his : i ≤ s.size := by omega
          by_cases hjl : j < B.length
          · have hpk := HPB.out j hjl
            rw [← hij2] at hpk
            have hpl := plain_at HP.out hjl
            have hne := HB.out.at_ne hjl
            have hbs := HB.out.bs hjl
            have hmem : pk B j ∈ B := by rw [pk_at hjl]; exact List.getElem_mem _
            obtain ⟨c, hc⟩ : ∃ c, c = pk B j := ⟨_, rfl⟩
            rw [← hc] at hpk hpl hne hbs hmem
            have HPK := Lib.hid hpk
            have c0 : ((c.toNat : Int) == 0) = false := beq_lit c 0 (by omega) (by omega)
            have c10 : ((c.toNat : Int) == 10) = false := beq_lit c 10 (by omega) (fun e => hne.2 (UInt8.toNat_inj.1 e))
            have cq : ((c.toNat : Int) == (q.toNat : Int)) = false := by rw [beq_int, beq_eq_false_iff_ne]; exact hne.1
            have cqn : (c.toNat == q.toNat) = false := by rw [beq_nat, beq_eq_false_iff_ne]; exact hne.1
            obtain ⟨i1, hi1⟩ : ∃ i1 : Nat, (i : Int) + 1 = (i1 : Int) := ⟨i + 1, by omega⟩
            have hi1' : i1 = i + 1 := by omega
            have HI1 := Lib.hid hi1'
            by_cases c92 : c = 92
            · have e92 : ((c.toNat : Int) == 92) = true := by rw [c92]; rfl
              have e128 : decide ((128 : Int) ≤ (c.toNat : Int)) = false := by rw [c92]; rfl
              have hj1 := hbs c92
              have hpk1 := HPB.out (j + 1) hj1
              rw [show F + (j + 1) = i1 by omega] at hpk1
              have hne1 := HB.out.at_ne hj1
              have HPK1 := Lib.hid hpk1
              have f10 : (((pk B (j + 1)).toNat : Int) == 10) = false := beq_lit _ 10 (by omega) (fun e => hne1.2 (UInt8.toNat_inj.1 e))
              obtain ⟨i2, hi2⟩ : ∃ i2 : Nat, (i : Int) + 2 = (i2 : Int) := ⟨i + 2, by omega⟩
              have hi2' : i2 = F + (j + 2) := by omega
              have HI2 := Lib.hid hi2'
              have hi1s : i1 ≤ s.size := by omega
              have HIJ : Hid (F + B.length - i2 < F + B.length - i) := by unfold Hid; omega
              clear hij2 hpk hpl hne hbs hmem hc c92 hpk1 hne1 hi1' hi2'
              go_wp2_with fail
              refine (peek_any 0 i (HS.out.drewN _) (by omega) (by omega) (by omega)).mono ?_
              rw [HPK.out]
              rintro e w' ⟨rfl, mm, rfl⟩
              go_wp2_with fail
              refine (peek_any 0 i1 (HS.out.drewN _) (by omega) (by omega) (by omega)).mono ?_
              rw [HPK1.out]
              rintro e w' ⟨rfl, mm2, rfl⟩
              go_wp2
              go_roundw
              case rel => exact ⟨j + 2, i2, _, by omega, by go_num, HI2, rfl⟩
              case measure => simp only [intOf]; exact HIJ.out
            · have e92 : ((c.toNat : Int) == 92) = false := beq_lit c 92 (by omega) (fun e => c92 (UInt8.toNat_inj.1 e))
              have hi1s : i1 ≤ s.size := by omega
              have HIJ : Hid (F + B.length - i1 < F + B.length - i) := by unfold Hid; omega
              have HI1F : Hid (i1 = F + (j + 1)) := by unfold Hid; omega
              by_cases c128 : 128 ≤ c.toNat
              · have e128 : decide ((128 : Int) ≤ (c.toNat : Int)) = true := by simp; omega
                have HMEM := Lib.hid hmem
                have HC128 := Lib.hid c128
                clear hij2 hpk hpl hne hbs hmem hc c92 hi1' c128
                rcases by_ with _ | _
                · go_wp2_with fail
                  refine (peek_any 0 i (HS.out.drewN _) (by omega) (by omega) (by omega)).mono ?_
                  rw [HPK.out]
                  rintro e w' ⟨rfl, mm, rfl⟩
                  go_wp2
                  go_roundw
                  case rel => exact ⟨j + 1, i1, _, by omega, by go_num, HI1F, rfl⟩
                  case measure => simp only [intOf]; exact HIJ.out
                · go_wp2_with fail
                  refine (peek_any 0 i (HS.out.drewN _) (by omega) (by omega) (by omega)).mono ?_
                  rw [HPK.out]
                  rintro e w' ⟨rfl, mm, rfl⟩
                  obtain ⟨w4, hw4⟩ : ∃ w4, w4 = (w.drewN dd).drewN mm := ⟨_, rfl⟩
                  have HS4 : Hid (Sc w4 X s 0 ln cl bg bk ov 2) := by rw [hw4]; exact (HS.out.drewN _).drewN _
                  have HON4 : Hid (Only (fun k => k = X ∨ ov.ownBlock = some k) w w4) := by rw [hw4]; exact ((Only.refl _ w).drewN _).drewN _
                  rw [← hw4]
                  clear hw4
                  obtain ⟨-, -, -, -, -, -, -, -, d8⟩ := HS4.out.cells
                  have f8 := HS4.out.fz 8
                  go_wp2
                  refine bodyPost_ret (results_none rfl _ _ _) rfl ?_
                  exact .inl ⟨rfl, HON4.out.setCell (p := ⟨X, 8, none⟩) (.inl (.inl rfl)) _, rfl, ⟨c, HMEM.out, HC128.out⟩, ln, cl, HS4.out.put8 _⟩
              · have e128 : decide ((128 : Int) ≤ (c.toNat : Int)) = false := by simp; omega
                clear hij2 hpk hpl hne hbs hmem hc c92 hi1' c128
                go_wp2_with fail
                refine (peek_any 0 i (HS.out.drewN _) (by omega) (by omega) (by omega)).mono ?_
                rw [HPK.out]
                rintro e w' ⟨rfl, mm, rfl⟩
                go_wp2
                go_roundw
                case rel => exact ⟨j + 1, i1, _, by omega, by go_num, HI1F, rfl⟩
                case measure => simp only [intOf]; exact HIJ.out
          · have hje : j = B.length := by omega
            have hpk := HPC.out 0 (by omega)
            rw [Nat.add_zero, ← hje, ← hij2] at hpk
            have HPK := Lib.hid hpk
            obtain ⟨t, ht⟩ : ∃ t, t = s.extract F i := ⟨_, rfl⟩
            have HT : Hid (t.data.toList = B) := by
              unfold Hid
              rw [ht, extract_list, HL.out, hij2, hje]
              have := litL_cut (a := a) (B := B) (wd := 1) (q := q) [10]
              rw [← HA.out, ← HF.out] at this
              exact this
            have hFi : F ≤ i := by omega
            have hFI : (F : Int) ≤ (i : Int) := by omega
            have hIS : (i : Int) ≤ (s.size : Int) := by omega
            have hF0 : (0 : Int) ≤ (F : Int) := by omega
            have hwF : IntKind.i64.wrap (F : Int) = (F : Int) := IntWalk.i64_in _ (by omega)
            have hwI : IntKind.i64.wrap (i : Int) = (i : Int) := IntWalk.i64_in _ (by omega)
            have hwF0 : IntKind.i64.wrap (0 + (F : Int)) = (F : Int) := by rw [Int.zero_add]; exact hwF
            have hwI0 : IntKind.i64.wrap (0 + (i : Int)) = (i : Int) := by rw [Int.zero_add]; exact hwI
            obtain ⟨n, hn⟩ : ∃ n : Nat, (i : Int) + 1 = (n : Int) := ⟨i + 1, by omega⟩
            have hwn : IntKind.i64.wrap ((i : Int) + 1) = (n : Int) := by rw [hn]; exact IntWalk.i64_in _ (by omega)
            have HNN : Hid (n = A + 2 + B.length) := by have := HF.out; unfold Hid; omega
            have hns : 0 + n ≤ s.size := by have := HNN.out; omega
            have htsz : t.size ≤ 2000 := by rw [ht]; simp; omega
            have HPT : Hid (PlainL t.data.toList) := by unfold Hid; rw [HT.out]; exact HP.out
            have hts := ht.symm
            clear hij2 hpk hjl hje ht hn
            go_wp2_with fail
            refine (peek_any 0 i (HS.out.drewN _) (by omega) (by omega) (by omega)).mono ?_
            rw [HPK.out]
            rintro e w' ⟨rfl, mm, rfl⟩
            obtain ⟨w4, hw4⟩ : ∃ w4, w4 = (w.drewN dd).drewN mm := ⟨_, rfl⟩
            have HS4 : Hid (Sc w4 X s 0 ln cl bg bk ov 2) := by rw [hw4]; exact (HS.out.drewN _).drewN _
            have HO4 : Hid (Outs w4 B0 ov m xs) := by rw [hw4]; exact own_below HO.out (below_dn (below_dn (Below.refl _ _) _) _)
            have HON4 : Hid (Only (fun k => k = X ∨ ov.ownBlock = some k) w w4) := by rw [hw4]; exact ((Only.refl _ w).drewN _).drewN _
            have HB4 : Hid (B0 ≤ w4.heap.size) := by rw [hw4]; exact HBW.out
            rw [← hw4]
            clear hw4
            obtain ⟨d0, d1, -, -, -, -, -, -, -⟩ := HS4.out.cells
            go_wp2_with fail
            go_still_tail 23, (by kernel_rfl)
            clear hwF hwI hwF0 hwI0 hwn hts
            go_wp2_with fail
            refine (value_any (w := w4.drew) 0 n m xs (HS4.out.drew) (World.ownsRow.drew HO4.out) HB4.out hm (by omega) hns htsz HPT.out).mono ?_
            rintro e w5 hpost
            have HPOST := Lib.hid hpost
            obtain ⟨rfl, -, -⟩ := hpost
            go_wp2
            refine bodyPost_ret (results_none rfl _ _ _) rfl ?_
            have h5 := HPOST.out
            rw [HT.out, HNN.out] at h5
            exact .inr ⟨rfl, ⟨h5.2.1.os.trans HON4.out.os, h5.2.1.tape.trans HON4.out.tape, h5.2.1.output.trans HON4.out.output, Nat.le_trans HON4.out.size h5.2.1.size, fun i hi hs => (h5.2.1.block i (Nat.lt_of_lt_of_le hi HON4.out.size) hs).trans (HON4.out.block i hi hs)⟩, h5.2.2⟩
end Go.Proofs.YtghendoiohfolaaGreatDoor
