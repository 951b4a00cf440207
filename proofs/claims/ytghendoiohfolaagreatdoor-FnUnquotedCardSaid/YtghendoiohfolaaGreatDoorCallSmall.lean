/- The package's small functions beneath unquote: an error made, a prefix, the first backslash. -/
import Derived.Test.YtghendoiohfolaaGreatDoorShelf
import Derived.Test.YtghendoiohfolaaGreatDoorUnqBody
import Derived.Test.YtghendoiohfolaaGreatDoorPlacePlain
import Derived.Test.YtghendoiohfolaaGreatDoorScan
namespace Go.Proofs.YtghendoiohfolaaGreatDoor
set_option linter.unusedSimpArgs false
set_option linter.unusedVariables false
set_option linter.unnecessarySimpa false
open Go.RowKit
def ErrPost (w : World) (e : Ending) (w' : World) : Prop := ∃ p, e = .returned (.iface 95 (.pointer (some p))) ∧ Below w.heap.size w w'
theorem errors_new (s : ByteArray) (w : World) : Calls Tryz.prog 31 #[.string s] w (ErrPost w) := by
  go_enter Tryz.func31, Tryz.ntmps31
  go_wp2
  go_ret
  exact ⟨_, rfl, (Below.refl _ _).alloc (Nat.le_refl _) _⟩
theorem has_prefix (s : ByteArray) (c : UInt8) (w : World) (hs : 1 ≤ s.size) (hs2 : s.size ≤ 10000) :
    Calls Tryz.prog 30 #[.string s, .string ⟨#[c]⟩] w fun e w' => e = .returned (.bool (pk s.data.toList 0 == c)) ∧ w = w' := by
  obtain ⟨p, hp⟩ : ∃ p : ByteArray, p = ⟨#[c]⟩ := ⟨_, rfl⟩
  have hps : p.size = 1 := by rw [hp]; rfl
  rw [← hp]
  have he : (s.extract 0 1).toList = [s[0]] := by
    rw [Lib.toList_data, extract_list, take_snoc s 0 (by omega)]
    simp
  have hpl : p.toList = [c] := by rw [hp, Lib.toList_data]
  have hb : ((s.extract 0 1).toList == p.toList) = (pk s.data.toList 0 == c) := by
    rw [he, hpl, pk_at (by simp; omega)]
    show ([s[0]] == [c]) = (s[0] == c)
    rw [Bool.eq_iff_iff, beq_iff_eq, beq_iff_eq]
    simp
  have g1 : (1 : Int) ≤ (s.size : Int) := by omega
  obtain ⟨b, hbb⟩ : ∃ b, b = (pk s.data.toList 0 == c) := ⟨_, rfl⟩
  rw [← hbb] at hb ⊢
  clear hp he hpl hbb
  have hin : Calls Tryz.prog 53 #[.string s, .string p] w fun e w' => e = .returned (.bool b) ∧ w = w' := by
    go_enter Tryz.func53, Tryz.ntmps53
    cases b with
    | true =>
      have hpr : (s.extract 0 1).toList = p.toList := by simpa using hb
      go_wp2
      go_ret
      exact ⟨rfl, rfl⟩
    | false =>
      have hpr : ¬ (s.extract 0 1).toList = p.toList := by simpa using hb
      go_wp2
      go_ret
      exact ⟨rfl, rfl⟩
  go_enter Tryz.func30, Tryz.ntmps30
  go_wp2_with fail
  refine hin.mono ?_
  rintro e w' ⟨rfl, rfl⟩
  go_wp2
  go_ret
  exact ⟨rfl, rfl⟩
/-- A rune's bytes from 128 on. -/
theorem wide_bytes (s : ByteArray) (p : Nat) (h : p < s.size) (ha : 128 ≤ (s[p]'h).toNat) : ∀ j, p ≤ j → j < p + (Utf8.decode s p).2 → 128 ≤ (pk s.data.toList j).toNat := by
  intro j h1 h2
  rw [Lib.decode_N] at h2
  have hc := Lib.decodeN_conts (s.data.toList.length - p) (s.data.toList.getD p 0).toNat (s.data.toList.getD (p + 1) 0).toNat (s.data.toList.getD (p + 2) 0).toNat (s.data.toList.getD (p + 3) 0).toNat
  obtain ⟨c1, c2, c3, c4⟩ := hc
  show 128 ≤ (s.data.toList.getD j 0).toNat
  rcases (show j = p ∨ j = p + 1 ∨ j = p + 2 ∨ j = p + 3 by omega) with rfl | rfl | rfl | rfl
  · have : s.data.toList.getD j 0 = s[j] := by
      have := pk_at (l := s.data.toList) (i := j) (by simpa using h)
      exact this
    rw [this]; exact ha
  · have := (c1 (by omega)).1; omega
  · have := (c2 (by omega)).1; omega
  · have := (c3 (by omega)).1; omega
/-- The first backslash's place; -1: none. -/
def IdxBs (s : ByteArray) (r : Int) : Prop := (r = -1 ∧ ∀ j, j < s.size → pk s.data.toList j ≠ 92) ∨ (∃ i : Nat, r = i ∧ i < s.size ∧ pk s.data.toList i = 92 ∧ ∀ j, j < i → pk s.data.toList j ≠ 92)
def IdxPost (s : ByteArray) (w : World) (e : Ending) (w' : World) : Prop := ∃ r, IdxBs s r ∧ e = .returned (.int .i64 r) ∧ Below w.heap.size w w'
def IdxI (s : ByteArray) (K : Nat) (w wr : World) : Prop := ∃ p : Nat, p ≤ s.size + 4 ∧ Hid (wr.heap[K]? = some (.stringIter s p)) ∧ Hid (∀ j, j < p → pk s.data.toList j ≠ 92) ∧ Hid (Below w.heap.size w wr)
def csB : ByteArray := ⟨#[92, 13]⟩
theorem csB_size : csB.size = 2 := rfl
theorem iter_new (w : World) (s : ByteArray) {n : Nat} (hn : w.heap.size = n) : (w.iter s 0).heap[n]? = some (.stringIter s 0) := hn ▸ World.iter_heap w s 0
set_option maxRecDepth 20000 in
set_option maxHeartbeats 4000000 in
theorem index_bs (s : ByteArray) (w : World) (hs : s.size ≤ 10000) (h13 : ∀ j, j < s.size → pk s.data.toList j ≠ 13) :
    Calls Tryz.prog 33 #[.string s, .string csB] w (IdxPost s w) := by
  have H13 := Lib.hid h13
  clear h13
  have hc0 : ∀ h, (csB[0]'h).toNat < 128 := by decide
  obtain ⟨cs, hcs⟩ : ∃ cs, cs = csB := ⟨_, rfl⟩
  have hz : cs.size = 2 := by rw [hcs]; rfl
  have h0 : 0 < cs.size := by omega
  have h1 : 1 < cs.size := by omega
  have h2 : ¬ 2 < cs.size := by omega
  have d0 : (cs[0]'h0).toNat = 92 := by subst hcs; rfl
  have d1 : (cs[1]'h1).toNat = 13 := by subst hcs; rfl
  rw [← hcs]
  have D0 := Lib.hid d0
  have D1 := Lib.hid d1
  clear hcs hc0 d0 d1 hz
  go_enter Tryz.func33, Tryz.ntmps33
  go_wp2_with fail
  obtain ⟨K, hK⟩ : ∃ K, K = w.heap.size := ⟨_, rfl⟩
  obtain ⟨w1, hw1⟩ : ∃ w1, w1 = w.iter s 0 := ⟨_, rfl⟩
  have HIT : Hid (w1.heap[K]? = some (.stringIter s 0)) := by rw [hw1, hK]; exact World.iter_heap w s 0
  have HB1 : Hid (Below w.heap.size w w1) := by rw [hw1]; exact (Below.refl _ _).alloc (Nat.le_refl _) _
  have HKW : Hid (w.heap.size ≤ K) := by rw [hK]; exact Nat.le_refl _
  first | rw [← hw1] | skip
  first | rw [← hK] | skip
  clear hw1 hK
  go_loopw [5, 6, 8] (fun _ _ _ wr => IdxI s K w wr) (fun _ _ _ wr => s.size + 4 - wr.iterPos K)
  case atStart => exact ⟨0, by omega, HIT, by unfold Hid; intro j hj; omega, HB1⟩
  case round =>
    obtain ⟨p, hp4, hit, hno, hbe⟩ := hrel
    obtain ⟨wo, rfl⟩ : ∃ wo : World, wo = wr := ⟨_, rfl⟩
    have HW0 : Hid (wo.iterPos K = p) := by unfold Hid World.iterPos; rw [hit.out]
    have hKo : K < wo.heap.size := (Array.getElem?_eq_some_iff.1 hit.out).1
    by_cases hlt : p < s.size
    · have hpk : pk s.data.toList p = s[p] := by rw [pk_at (by simpa using hlt)]; rfl
      obtain ⟨r, q, hrq, hq1, hq4, hcase⟩ : ∃ r q : Nat, Utf8.decode s p = (r, q - p) ∧ p < q ∧ q ≤ s.size + 4 ∧ ((r = 92 ∧ pk s.data.toList p = 92) ∨ (r ≠ 92 ∧ r ≠ 13 ∧ ∀ j, j < q → pk s.data.toList j ≠ 92)) := by
        by_cases ha : (s[p]).toNat < 128
        · refine ⟨(s[p]).toNat, p + 1, by rw [decode_ascii s p hlt ha, Nat.add_sub_cancel_left], by omega, by omega, ?_⟩
          by_cases h92 : s[p] = 92
          · exact .inl ⟨by rw [h92]; rfl, by rw [hpk]; exact h92⟩
          · refine .inr ⟨fun e => h92 (UInt8.toNat_inj.1 e), fun e => H13.out p hlt (by rw [hpk]; exact UInt8.toNat_inj.1 e), fun j hj => ?_⟩
            by_cases hj2 : j < p
            · exact hno.out j hj2
            · obtain rfl : j = p := by omega
              rw [hpk]; exact h92
        · have hd := decode_high s p hlt (by omega)
          have hw := wide_bytes s p hlt (by omega)
          have hc4 : (Utf8.decode s p).2 ≤ 4 := by
            rw [Lib.decode_N]
            exact (Lib.decodeN_conts _ _ _ _ _).2.2.2
          refine ⟨(Utf8.decode s p).1, p + (Utf8.decode s p).2, by rw [Nat.add_sub_cancel_left], by omega, by omega, .inr ⟨by omega, by omega, fun j hj => ?_⟩⟩
          by_cases hj2 : j < p
          · exact hno.out j hj2
          · have := hw j (by omega) hj
            intro e
            rw [e] at this
            simp at this
      have hnx := fun ty => Lib.run_next_any_at (P := Tryz.prog) wo K s p ty hit.out hlt
      rw [hrq] at hnx
      simp only [show p + (q - p) = q by omega] at hnx
      obtain ⟨w2, hw2⟩ : ∃ w2, w2 = wo.iterAt K s q := ⟨_, rfl⟩
      rw [← hw2] at hnx
      have HIT2 : Hid (w2.heap[K]? = some (.stringIter s q)) := by rw [hw2]; exact Lib.iterAt_heap wo K s p q hit.out
      have HB2 : Hid (Below w.heap.size w w2) := by rw [hw2]; exact Lib.below_iterAt hbe.out HKW.out s q
      have hz2 : w2.heap.size = wo.heap.size := by rw [hw2]; exact Lib.iterAt_size wo K s q
      have HK2 : Hid (K < w2.heap.size) := by rw [hz2]; exact hKo
      clear hw2 hrq hz2
      go_wp2_with fail
      obtain ⟨M, hM⟩ : ∃ M, M = w2.heap.size := ⟨_, rfl⟩
      obtain ⟨w3, hw3⟩ : ∃ w3, w3 = w2.iter cs 0 := ⟨_, rfl⟩
      have hHM : w3.heap[M]? = some (.stringIter cs 0) := by rw [hw3, hM]; exact World.iter_heap w2 cs 0
      have HIT3 : Hid (w3.heap[K]? = some (.stringIter s q)) := by rw [hw3]; exact (Below.heap_alloc w2 _ K HK2.out).trans HIT2.out
      have HB3 : Hid (Below w.heap.size w w3) := by rw [hw3]; exact HB2.out.alloc HB2.out.size _
      have hKM : K ≠ M := by have := HK2.out; omega
      have HMW : Hid (w.heap.size ≤ M) := by have := HB2.out.size; unfold Hid; omega
      first | rw [← hw3] | skip
      first | rw [← hM] | skip
      clear hw3 hM
      have hy0 := fun ty => Lib.run_next_ascii_at (P := Tryz.prog) w3 M cs 0 ty hHM h0 (by rw [D0.out]; omega)
      simp only [D0.out] at hy0
      obtain ⟨w4, hw4⟩ : ∃ w4, w4 = w3.iterAt M cs (0 + 1) := ⟨_, rfl⟩
      rw [← hw4] at hy0
      have hHM4 : w4.heap[M]? = some (.stringIter cs 1) := by rw [hw4]; exact Lib.iterAt_heap w3 M cs 0 1 hHM
      have HIT4 : Hid (w4.heap[K]? = some (.stringIter s q)) := by rw [hw4]; exact (Lib.iterAt_other w3 M K cs _ hKM).trans HIT3.out
      have HB4 : Hid (Below w.heap.size w w4) := by rw [hw4]; exact Lib.below_iterAt HB3.out HMW.out cs _
      clear hw4
      refine wp_loop_rounds 3 ?_
      rw [rounds_succ]
      rcases hcase with ⟨hr, hp92⟩ | ⟨hr1, hr2, hno2⟩
      · have hb : ((r : Int) == 92) = true := by rw [hr]; rfl
        have HP92 := Lib.hid hp92
        clear hr hp92
        go_wp2
        go_ret
        exact ⟨(p : Int), .inr ⟨p, rfl, hlt, HP92.out, hno.out⟩, rfl, HB4.out⟩
      · have hb1 : ((r : Int) == 92) = false := by rw [beq_eq_false_iff_ne]; omega
        have hb2 : ((r : Int) == 13) = false := by rw [beq_eq_false_iff_ne]; omega
        have HNO2 := Lib.hid hno2
        clear hr1 hr2 hno2
        go_wp2_with fail
        rw [rounds_succ]
        have hy1 := fun ty => Lib.run_next_ascii_at (P := Tryz.prog) w4 M cs 1 ty hHM4 h1 (by rw [D1.out]; omega)
        simp only [D1.out] at hy1
        obtain ⟨w5, hw5⟩ : ∃ w5, w5 = w4.iterAt M cs (1 + 1) := ⟨_, rfl⟩
        rw [← hw5] at hy1
        have hHM5 : w5.heap[M]? = some (.stringIter cs 2) := by rw [hw5]; exact Lib.iterAt_heap w4 M cs 1 2 hHM4
        have HIT5 : Hid (w5.heap[K]? = some (.stringIter s q)) := by rw [hw5]; exact (Lib.iterAt_other w4 M K cs _ hKM).trans HIT4.out
        have HB5 : Hid (Below w.heap.size w w5) := by rw [hw5]; exact Lib.below_iterAt HB4.out HMW.out cs _
        clear hw5 hy0
        go_wp2_with fail
        rw [rounds_succ]
        have hy2 := fun ty => Lib.run_next_end_at (P := Tryz.prog) w5 M cs 2 ty hHM5 h2
        clear hy1
        go_wp2_with fail
        go_roundw
        case rel => exact ⟨q, hq4, HIT5, HNO2, HB5⟩
        case measure =>
          have e1 : w5.iterPos K = q := by unfold World.iterPos; rw [HIT5.out]
          rw [HW0.out, e1]
          omega
    · have hnx := fun ty => Lib.run_next_end_at (P := Tryz.prog) wo K s p ty hit.out hlt
      go_wp2
      go_ret
      exact ⟨-1, .inl ⟨rfl, fun j hj => hno.out j (by omega)⟩, rfl, hbe.out⟩
def IdxC (s : ByteArray) (K : Nat) (w wr : World) : Prop := ∃ p : Nat, p ≤ s.size + 4 ∧ Hid (wr.heap[K]? = some (.stringIter s p)) ∧ Hid (Below w.heap.size w wr)
def csR : ByteArray := ⟨#[13]⟩
set_option maxRecDepth 20000 in
set_option maxHeartbeats 4000000 in
theorem index_cr (s : ByteArray) (w : World) (hs : s.size ≤ 10000) (h13 : ∀ j, j < s.size → pk s.data.toList j ≠ 13) :
    Calls Tryz.prog 33 #[.string s, .string csR] w fun e w' => e = .returned (.int .i64 (-1)) ∧ Below w.heap.size w w' := by
  have H13 := Lib.hid h13
  clear h13
  obtain ⟨cs, hcs⟩ : ∃ cs, cs = csR := ⟨_, rfl⟩
  have hz : cs.size = 1 := by rw [hcs]; rfl
  have h0 : 0 < cs.size := by omega
  have h1 : ¬ 1 < cs.size := by omega
  have d0 : (cs[0]'h0).toNat = 13 := by subst hcs; rfl
  rw [← hcs]
  have D0 := Lib.hid d0
  clear hcs d0 hz
  go_enter Tryz.func33, Tryz.ntmps33
  go_wp2_with fail
  obtain ⟨K, hK⟩ : ∃ K, K = w.heap.size := ⟨_, rfl⟩
  obtain ⟨w1, hw1⟩ : ∃ w1, w1 = w.iter s 0 := ⟨_, rfl⟩
  have HIT : Hid (w1.heap[K]? = some (.stringIter s 0)) := by rw [hw1, hK]; exact World.iter_heap w s 0
  have HB1 : Hid (Below w.heap.size w w1) := by rw [hw1]; exact (Below.refl _ _).alloc (Nat.le_refl _) _
  have HKW : Hid (w.heap.size ≤ K) := by rw [hK]; exact Nat.le_refl _
  first | rw [← hw1] | skip
  first | rw [← hK] | skip
  clear hw1 hK
  go_loopw [5, 6, 8] (fun _ _ _ wr => IdxC s K w wr) (fun _ _ _ wr => s.size + 4 - wr.iterPos K)
  case atStart => exact ⟨0, by omega, HIT, HB1⟩
  case round =>
    obtain ⟨p, hp4, hit, hbe⟩ := hrel
    obtain ⟨wo, rfl⟩ : ∃ wo : World, wo = wr := ⟨_, rfl⟩
    have HW0 : Hid (wo.iterPos K = p) := by unfold Hid World.iterPos; rw [hit.out]
    have hKo : K < wo.heap.size := (Array.getElem?_eq_some_iff.1 hit.out).1
    by_cases hlt : p < s.size
    · have hpk : pk s.data.toList p = s[p] := by rw [pk_at (by simpa using hlt)]; rfl
      obtain ⟨r, q, hrq, hq1, hq4, hr2⟩ : ∃ r q : Nat, Utf8.decode s p = (r, q - p) ∧ p < q ∧ q ≤ s.size + 4 ∧ r ≠ 13 := by
        by_cases ha : (s[p]).toNat < 128
        · exact ⟨(s[p]).toNat, p + 1, by rw [decode_ascii s p hlt ha, Nat.add_sub_cancel_left], by omega, by omega, fun e => H13.out p hlt (by rw [hpk]; exact UInt8.toNat_inj.1 e)⟩
        · have hd := decode_high s p hlt (by omega)
          have hc4 : (Utf8.decode s p).2 ≤ 4 := by
            rw [Lib.decode_N]
            exact (Lib.decodeN_conts _ _ _ _ _).2.2.2
          exact ⟨(Utf8.decode s p).1, p + (Utf8.decode s p).2, by rw [Nat.add_sub_cancel_left], by omega, by omega, by omega⟩
      have hnx := fun ty => Lib.run_next_any_at (P := Tryz.prog) wo K s p ty hit.out hlt
      rw [hrq] at hnx
      simp only [show p + (q - p) = q by omega] at hnx
      obtain ⟨w2, hw2⟩ : ∃ w2, w2 = wo.iterAt K s q := ⟨_, rfl⟩
      rw [← hw2] at hnx
      have HIT2 : Hid (w2.heap[K]? = some (.stringIter s q)) := by rw [hw2]; exact Lib.iterAt_heap wo K s p q hit.out
      have HB2 : Hid (Below w.heap.size w w2) := by rw [hw2]; exact Lib.below_iterAt hbe.out HKW.out s q
      have hz2 : w2.heap.size = wo.heap.size := by rw [hw2]; exact Lib.iterAt_size wo K s q
      have HK2 : Hid (K < w2.heap.size) := by rw [hz2]; exact hKo
      clear hw2 hrq hz2
      go_wp2_with fail
      obtain ⟨M, hM⟩ : ∃ M, M = w2.heap.size := ⟨_, rfl⟩
      obtain ⟨w3, hw3⟩ : ∃ w3, w3 = w2.iter cs 0 := ⟨_, rfl⟩
      have hHM : w3.heap[M]? = some (.stringIter cs 0) := by rw [hw3, hM]; exact World.iter_heap w2 cs 0
      have HIT3 : Hid (w3.heap[K]? = some (.stringIter s q)) := by rw [hw3]; exact (Below.heap_alloc w2 _ K HK2.out).trans HIT2.out
      have HB3 : Hid (Below w.heap.size w w3) := by rw [hw3]; exact HB2.out.alloc HB2.out.size _
      have hKM : K ≠ M := by have := HK2.out; omega
      have HMW : Hid (w.heap.size ≤ M) := by have := HB2.out.size; unfold Hid; omega
      first | rw [← hw3] | skip
      first | rw [← hM] | skip
      clear hw3 hM
      have hy0 := fun ty => Lib.run_next_ascii_at (P := Tryz.prog) w3 M cs 0 ty hHM h0 (by rw [D0.out]; omega)
      simp only [D0.out] at hy0
      obtain ⟨w4, hw4⟩ : ∃ w4, w4 = w3.iterAt M cs (0 + 1) := ⟨_, rfl⟩
      rw [← hw4] at hy0
      have hHM4 : w4.heap[M]? = some (.stringIter cs 1) := by rw [hw4]; exact Lib.iterAt_heap w3 M cs 0 1 hHM
      have HIT4 : Hid (w4.heap[K]? = some (.stringIter s q)) := by rw [hw4]; exact (Lib.iterAt_other w3 M K cs _ hKM).trans HIT3.out
      have HB4 : Hid (Below w.heap.size w w4) := by rw [hw4]; exact Lib.below_iterAt HB3.out HMW.out cs _
      clear hw4
      have hb2 : ((r : Int) == 13) = false := by rw [beq_eq_false_iff_ne]; omega
      clear hr2
      refine wp_loop_rounds 2 ?_
      rw [rounds_succ]
      go_wp2_with fail
      rw [rounds_succ]
      have hy1 := fun ty => Lib.run_next_end_at (P := Tryz.prog) w4 M cs 1 ty hHM4 h1
      clear hy0
      go_wp2_with fail
      go_roundw
      case rel => exact ⟨q, hq4, HIT4, HB4⟩
      case measure =>
        have e1 : w4.iterPos K = q := by unfold World.iterPos; rw [HIT4.out]
        rw [HW0.out, e1]
        omega
    · have hnx := fun ty => Lib.run_next_end_at (P := Tryz.prog) wo K s p ty hit.out hlt
      go_wp2
      go_ret
      exact ⟨rfl, hbe.out⟩
def ConPost (s : ByteArray) (w : World) (e : Ending) (w' : World) : Prop := ∃ b : Bool, (b = false → ∀ j, j < s.size → pk s.data.toList j ≠ 92) ∧ e = .returned (.bool b) ∧ Below w.heap.size w w'
theorem contains_bs (s : ByteArray) (w : World) (hs : s.size ≤ 10000) (h13 : ∀ j, j < s.size → pk s.data.toList j ≠ 13) :
    Calls Tryz.prog 32 #[.string s, .string csB] w (ConPost s w) := by
  have HI := Lib.hid (index_bs s w hs h13)
  clear h13
  go_enter Tryz.func32, Tryz.ntmps32
  go_wp2_with fail
  refine HI.out.mono ?_
  rintro e w1 ⟨r, hr, rfl, hb⟩
  have HB := Lib.hid hb
  rcases hr with ⟨rfl, hno⟩ | ⟨i, rfl, hi, -, -⟩
  · have HNO := Lib.hid hno
    clear hno hb
    go_wp2
    go_ret
    exact ⟨false, fun _ => HNO.out, rfl, HB.out⟩
  · clear hb
    have hge : decide ((0 : Int) ≤ (i : Int)) = true := by simp
    go_wp2
    go_ret
    exact ⟨true, fun h => by simp at h, rfl, HB.out⟩
theorem contains_cr (s : ByteArray) (w : World) (hs : s.size ≤ 10000) (h13 : ∀ j, j < s.size → pk s.data.toList j ≠ 13) :
    Calls Tryz.prog 32 #[.string s, .string csR] w fun e w' => e = .returned (.bool false) ∧ Below w.heap.size w w' := by
  have HI := Lib.hid (index_cr s w hs h13)
  clear h13
  go_enter Tryz.func32, Tryz.ntmps32
  go_wp2_with fail
  refine HI.out.mono ?_
  rintro e w1 ⟨rfl, hb⟩
  have HB := Lib.hid hb
  clear hb
  go_wp2
  go_ret
  exact ⟨rfl, HB.out⟩
end Go.Proofs.YtghendoiohfolaaGreatDoor
