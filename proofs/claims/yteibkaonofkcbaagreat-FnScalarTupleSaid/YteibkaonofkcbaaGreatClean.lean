/- The reference's Clean at depth 0: a value without parts, of one of six kinds. -/
import Derived.Test.YteibkaonofkcbaaGreatTupJoinK
import Derived.Test.YteibkaonofkcbaaGreatIntVal
import Derived.Test.YteibkaonofkcbaaGreatTupJoinC
import Derived.Deep.RegionHeld3
import Derived.IntWalk
set_option linter.unusedSimpArgs false
set_option linter.unusedVariables false
namespace Go.Proofs.YteibkaonofkcbaaGreat
open Go.RowKit
attribute [local go_sem ↓] Go.wp_at_zero Go.wp_at_succ
theorem clean_kind (k : Int) : ∃ r, (k.tmod 10 + 10).tmod 10 = r ∧ 0 ≤ r ∧ r < 10 ∧ wrap64 (k.tmod 10) = k.tmod 10 ∧ wrap64 (k.tmod 10 + 10) = k.tmod 10 + 10 := by
  have h1 : k.tmod 10 < 10 := Int.tmod_lt_of_pos k (by decide)
  have h2 : -10 < k.tmod 10 := Int.lt_tmod_of_pos k (by decide)
  refine ⟨_, rfl, Int.tmod_nonneg _ (by omega), Int.tmod_lt_of_pos _ (by decide), ?_, ?_⟩
  · unfold wrap64; omega
  · unfold wrap64; omega
theorem bool_val (q : Bool) (w : World) :
    Calls Tryz.prog 22 #[.bool q] w fun e w' => e = .returned (pv 1 false none 0 0 (if q then 1 else 0) ⟨#[]⟩ none 0 0) ∧ Below w.heap.size w w' := by
  cases q with
  | false =>
    have HB := Lib.hid ((Below.refl w.heap.size w).alloc (Nat.le_refl _) (.cells #[.int .i64 1, .bool false, .slice none 0 0, .int .u64 0, .string ⟨#[]⟩, .slice none 0 0] 33))
    go_enter Tryz.func22, Tryz.ntmps22
    go_wp2
    exact bodyPost_ret (v := pv 1 false none 0 0 0 ⟨#[]⟩ none 0 0) (by simp [results, Tryz.results22, go_sem, pv]) rfl ⟨rfl, HB.out⟩
  | true =>
    have HB := Lib.hid ((Below.refl w.heap.size w).alloc (Nat.le_refl _) (.cells #[.int .i64 1, .bool false, .slice none 0 0, .int .u64 1, .string ⟨#[]⟩, .slice none 0 0] 33))
    go_enter Tryz.func22, Tryz.ntmps22
    go_wp2
    exact bodyPost_ret (v := pv 1 false none 0 0 1 ⟨#[]⟩ none 0 0) (by simp [results, Tryz.results22, go_sem, pv]) rfl ⟨rfl, HB.out⟩
def CleanPost (w : World) (e : Ending) (w' : World) : Prop := ∃ v s, e = .returned v ∧ XVal w' w.heap.size v s ∧ Below w.heap.size w w'
set_option maxRecDepth 100000 in
set_option maxHeartbeats 8000000 in
theorem clean_any (k : Int) (neg : Bool) (a : Option Addr) (m c : Nat) (b : Nat) (tx : ByteArray) (ka : Option Addr) (kn kc : Nat) (l : List Nat) (w : World) (hb : BSl w (.slice a m c) l) (hl : l.length = m) (ht : tx.size ≤ maxLen) :
    Calls Tryz.prog 11 #[pv k neg a m c (b : Int) tx ka kn kc, .int .i64 0] w (CleanPost w) := by
  obtain ⟨r, hr, hr0, hr1, hw1, hw2⟩ := clean_kind k
  have HBX := Lib.hid ((Below.refl w.heap.size w).alloc (Nat.le_refl _) (.cells #[.int .i64 k, .bool neg, .slice a m c, .int .u64 (b : Int), .string tx, .slice ka kn kc] 33))
  have HB0 := Lib.hid (HBX.out.alloc (by simp) (.cells #[.int .i64 0, .bool false, .slice none 0 0, .int .u64 0, .string ⟨#[]⟩, .slice none 0 0] 33))
  have HK0 := Lib.hid (Blk.new_at (w.alloc (.cells #[.int .i64 k, .bool neg, .slice a m c, .int .u64 (b : Int), .string tx, .slice ka kn kc] 33)) 33 #[.int .i64 0, .bool false, .slice none 0 0, .int .u64 0, .string ⟨#[]⟩, .slice none 0 0] (n := w.heap.size + 1) (by simp))
  have HKA := Lib.hid ((Blk.new w 33 #[.int .i64 k, .bool neg, .slice a m c, .int .u64 (b : Int), .string tx, .slice ka kn kc]).alloc (.cells #[.int .i64 0, .bool false, .slice none 0 0, .int .u64 0, .string ⟨#[]⟩, .slice none 0 0] 33))
  have HS := Lib.hid hb
  have HL := Lib.hid hl
  clear hb hl
  unfold pv
  have hcases : r = 0 ∨ r = 1 ∨ r = 2 ∨ r = 3 ∨ r = 4 ∨ r = 5 ∨ r = 6 ∨ r = 7 ∨ r = 8 ∨ r = 9 := by omega
  clear hr0 hr1
  rcases hcases with rfl | rfl | rfl | rfl | rfl | rfl | rfl | rfl | rfl | rfl
  · go_enter Tryz.func11, Tryz.ntmps11
    go_wp2
    exact bodyPost_ret (v := pv 0 false none 0 0 0 ⟨#[]⟩ none 0 0) (by simp [results, Tryz.results11, go_sem, pv]) rfl ⟨_, .none, rfl, rfl, HBX.out.alloc (by simp) _⟩
  · obtain ⟨q, hq⟩ : ∃ q, (bits .and .u64 (b : Int) 1 == 1) = q := ⟨_, rfl⟩
    cases q
    · go_enter Tryz.func11, Tryz.ntmps11
      go_wp2_with fail
      refine (bool_val false _).mono ?_
      rintro e w1 ⟨rfl, hb1⟩
      have HB1 := Lib.hid (HB0.out.trans (hb1.mono (by simp <;> omega)))
      obtain ⟨c0, c1, c2, c3, c4, c5, f0, f1, f2, f3, f4, f5⟩ := blk6 (HK0.out.below hb1 (by simp))
      clear hb1
      unfold pv
      go_wp2
      refine bodyPost_ret (v := pv 1 false none 0 0 0 ⟨#[]⟩ none 0 0) (by simp [results, Tryz.results11, go_sem, pv, c0, c1, c2, c3, c4, c5]) rfl ⟨_, .bool false, rfl, rfl, ?_⟩
      exact HB1.out.trans ((six_set w1 (w.heap.size + 1) (.int .i64 1) (.bool false) (.slice none 0 0) (.int .u64 0) (.string ⟨#[]⟩) (.slice none 0 0)).to_below HB1.out.size (fun k _ e => by omega))
    · go_enter Tryz.func11, Tryz.ntmps11
      go_wp2_with fail
      refine (bool_val true _).mono ?_
      rintro e w1 ⟨rfl, hb1⟩
      have HB1 := Lib.hid (HB0.out.trans (hb1.mono (by simp <;> omega)))
      obtain ⟨c0, c1, c2, c3, c4, c5, f0, f1, f2, f3, f4, f5⟩ := blk6 (HK0.out.below hb1 (by simp))
      clear hb1
      unfold pv
      go_wp2
      refine bodyPost_ret (v := pv 1 false none 0 0 1 ⟨#[]⟩ none 0 0) (by simp [results, Tryz.results11, go_sem, pv, c0, c1, c2, c3, c4, c5]) rfl ⟨_, .bool true, rfl, rfl, ?_⟩
      exact HB1.out.trans ((six_set w1 (w.heap.size + 1) (.int .i64 1) (.bool false) (.slice none 0 0) (.int .u64 1) (.string ⟨#[]⟩) (.slice none 0 0)).to_below HB1.out.size (fun k _ e => by omega))
  · have hmc : m ≤ c ∧ c ≤ maxLen := by obtain ⟨a', c', hv, h1, h2, _⟩ := HS.out; injection hv with e1 e2 e3; subst e2 e3; exact ⟨h1, h2⟩
    obtain ⟨j, hj⟩ : ∃ j, (m ≤ 40 ∧ j = m) ∨ (40 < m ∧ j = 40) := by
      by_cases h : m ≤ 40
      · exact ⟨m, .inl ⟨h, rfl⟩⟩
      · exact ⟨40, .inr ⟨by omega, rfl⟩⟩
    have hmin : min (m : Int) 40 = (j : Int) := by omega
    have hjm : j ≤ m := by omega
    have hj40 : j ≤ 40 := by omega
    obtain ⟨sv, hsv⟩ : ∃ sv, sv = Value.slice (if c = 0 then a else a.map (·.add (0 * 1))) j c := ⟨_, rfl⟩
    have hbs := HS.out.to j hjm
    rw [← hsv] at hbs
    have hsl := fun W => slice_to W a m c j (by omega)
    rw [← hsv] at hsl
    obtain ⟨sa, hsa⟩ : ∃ sa, sv = .slice sa j c := ⟨_, hsv⟩
    clear hsv hj hmc
    subst hsa
    have HLJ : Hid ((l.take j).length ≤ 40) := by unfold Hid; rw [List.length_take]; omega
    obtain ⟨w0, hw0⟩ : ∃ w0, w0 = ((w.alloc (.cells #[.int .i64 k, .bool neg, .slice a m c, .int .u64 (b : Int), .string tx, .slice ka kn kc] 33)).alloc (.cells #[.int .i64 0, .bool false, .slice none 0 0, .int .u64 0, .string ⟨#[]⟩, .slice none 0 0] 33)) := ⟨_, rfl⟩
    have HW0 := Lib.hid hw0
    have HSJ := Lib.hid (hbs.old HB0.out)
    rw [← hw0] at HSJ HB0 HK0 HKA
    have hz0 : w0.heap.size = w.heap.size + 2 := by rw [hw0]; simp
    have HZ0 := Lib.hid hz0
    have HCX : Hid (∀ W, Only (· = w.heap.size + 1) w0 W → W.cell? ⟨w.heap.size, 1, none⟩ = some (.bool neg) ∧ W.cell? ⟨w.heap.size, 2, none⟩ = some (.slice a m c)) := fun W h => by
      have k1 := HKA.out.only h (by omega)
      exact ⟨(k1.cell 1).trans rfl, (k1.cell 2).trans rfl⟩
    have HO0 := Lib.hid (Only.refl (· = w.heap.size + 1) w0).drew
    have C0 := Lib.hid (Below.refl w0.heap.size w0).drew
    clear hbs hw0 hz0 hjm
    go_enter Tryz.func11, Tryz.ntmps11
    go_upto_region 8 with fail
    rw [← HW0.out]
    go_region_held3 (fun W => W.cell? ⟨w.heap.size, 1, none⟩ = some (.bool neg) ∧ W.cell? ⟨w.heap.size, 2, none⟩ = some (.slice a m c))
      (first | (refine HCX.out _ ?_; first | with_reducible exact HO0.out | with_reducible exact HO1.out | with_reducible exact HO2.out | ((with_reducible refine HO2.out.trans ?_); exact six_set _ _ _ _ _ _ _ _)) | go_keep)
      (first
      | (go_at_call 24; refine (of_any neg sa j c (l.take j) _ (HSJ.out.old C0.out) (Nat.le_trans HLJ.out (by decide))).mono ?_; rintro e w1 ⟨v1, rfl, hsi, hb1⟩; have HO1 := Lib.hid (HO0.out.below hb1); have C1 := Lib.hid (C0.out.trans (hb1.mono C0.out.size)); have HIV := Lib.hid (intval_any _ _ _ _ _ hsi (Nat.le_trans (strip_le _) (Nat.le_trans HLJ.out (by decide)))); clear hb1 hsi)
      | (go_at_call 23; refine HIV.out.mono ?_; rintro e w2 ⟨vi, rfl, hiv, hb2⟩; have HO2 := Lib.hid (HO1.out.below hb2); have C2 := Lib.hid (C1.out.trans (hb2.mono C1.out.size)); obtain ⟨vs, hvi, ho, hh, hng⟩ := hiv; obtain ⟨g, cc, hvs, _, _, _, _⟩ := ho.form; obtain ⟨rr, hrr⟩ : ∃ r, r = (strip (l.take j)).length := ⟨_, rfl⟩; rw [← hrr] at hvs; subst hvs; subst hvi; obtain ⟨ng, hngq⟩ : ∃ q, q = negOf neg (l.take j) := ⟨_, rfl⟩; rw [← hngq] at hng ⊢; have HNGQ := Lib.hid hngq; have HO := Lib.hid ho; have HH := Lib.hid hh; have HNG := Lib.hid hng; obtain ⟨c0, c1, c2, c3, c4, c5, f0, f1, f2, f3, f4, f5⟩ := blk6 (HK0.out.below C2.out HK0.out.lt); clear hb2 ho hh hng hrr hngq))
    go_wp2
    refine bodyPost_ret (v := .agg #[.int .i64 2, .bool ng, .slice (some ⟨g, 0, none⟩) rr cc, .int .u64 0, .string ⟨#[]⟩, .slice none 0 0]) (by simp [results, Tryz.results11, go_sem, pv, c0, c1, c2, c3, c4, c5]) rfl ⟨_, .int ng (strip (l.take j)), rfl, ⟨⟨.slice (some ⟨g, 0, none⟩) rr cc, rfl, ?_, HH.out, HNG.out⟩, Nat.le_trans (strip_le _) HLJ.out⟩, ?_⟩
    · have hz := HZ0.out
      have s1 := C1.out.size
      exact (HO.out.only (six_set w2 (w.heap.size + 1) (.int .i64 2) (.bool ng) (.slice (some ⟨g, 0, none⟩) rr cc) (.int .u64 0) (.string ⟨#[]⟩) (.slice none 0 0)) (fun k hk e => by omega)).base (by omega)
    · exact (HB0.out.trans (C2.out.mono HB0.out.size)).trans ((six_set w2 (w.heap.size + 1) (.int .i64 2) (.bool ng) (.slice (some ⟨g, 0, none⟩) rr cc) (.int .u64 0) (.string ⟨#[]⟩) (.slice none 0 0)).to_below (HB0.out.trans (C2.out.mono HB0.out.size)).size (fun k _ e => by omega))
  · go_enter Tryz.func11, Tryz.ntmps11
    go_wp2
    exact bodyPost_ret (v := pv 3 false none 0 0 (b : Int) ⟨#[]⟩ none 0 0) (by simp [results, Tryz.results11, go_sem, pv]) rfl ⟨_, .float b, rfl, rfl, HBX.out.alloc (by simp) _⟩
  · go_enter Tryz.func11, Tryz.ntmps11
    go_wp2
    exact bodyPost_ret (v := pv 4 false none 0 0 0 (tx.extract 0 (min (tx.size : Int) 60).toNat) none 0 0) (by simp [results, Tryz.results11, go_sem, pv]) rfl ⟨_, .str _, rfl, ⟨rfl, by simp; omega⟩, HBX.out.alloc (by simp) _⟩
  · go_enter Tryz.func11, Tryz.ntmps11
    go_wp2
    exact bodyPost_ret (v := pv 5 false none 0 0 0 (tx.extract 0 (min (tx.size : Int) 60).toNat) none 0 0) (by simp [results, Tryz.results11, go_sem, pv]) rfl ⟨_, .byt _, rfl, ⟨rfl, by simp; omega⟩, HBX.out.alloc (by simp) _⟩
  · go_enter Tryz.func11, Tryz.ntmps11
    go_wp2
    exact bodyPost_ret (v := pv 0 false none 0 0 0 ⟨#[]⟩ none 0 0) (by simp [results, Tryz.results11, go_sem, pv]) rfl ⟨_, .none, rfl, rfl, HBX.out.alloc (by simp) _⟩
  · obtain ⟨q, hq⟩ : ∃ q, (bits .and .u64 (b : Int) 1 == 1) = q := ⟨_, rfl⟩
    cases q
    · go_enter Tryz.func11, Tryz.ntmps11
      go_wp2_with fail
      refine (bool_val false _).mono ?_
      rintro e w1 ⟨rfl, hb1⟩
      have HB1 := Lib.hid (HB0.out.trans (hb1.mono (by simp <;> omega)))
      obtain ⟨c0, c1, c2, c3, c4, c5, f0, f1, f2, f3, f4, f5⟩ := blk6 (HK0.out.below hb1 (by simp))
      clear hb1
      unfold pv
      go_wp2
      refine bodyPost_ret (v := pv 1 false none 0 0 0 ⟨#[]⟩ none 0 0) (by simp [results, Tryz.results11, go_sem, pv, c0, c1, c2, c3, c4, c5]) rfl ⟨_, .bool false, rfl, rfl, ?_⟩
      exact HB1.out.trans ((six_set w1 (w.heap.size + 1) (.int .i64 1) (.bool false) (.slice none 0 0) (.int .u64 0) (.string ⟨#[]⟩) (.slice none 0 0)).to_below HB1.out.size (fun k _ e => by omega))
    · go_enter Tryz.func11, Tryz.ntmps11
      go_wp2_with fail
      refine (bool_val true _).mono ?_
      rintro e w1 ⟨rfl, hb1⟩
      have HB1 := Lib.hid (HB0.out.trans (hb1.mono (by simp <;> omega)))
      obtain ⟨c0, c1, c2, c3, c4, c5, f0, f1, f2, f3, f4, f5⟩ := blk6 (HK0.out.below hb1 (by simp))
      clear hb1
      unfold pv
      go_wp2
      refine bodyPost_ret (v := pv 1 false none 0 0 1 ⟨#[]⟩ none 0 0) (by simp [results, Tryz.results11, go_sem, pv, c0, c1, c2, c3, c4, c5]) rfl ⟨_, .bool true, rfl, rfl, ?_⟩
      exact HB1.out.trans ((six_set w1 (w.heap.size + 1) (.int .i64 1) (.bool false) (.slice none 0 0) (.int .u64 1) (.string ⟨#[]⟩) (.slice none 0 0)).to_below HB1.out.size (fun k _ e => by omega))
  · have hmc : m ≤ c ∧ c ≤ maxLen := by obtain ⟨a', c', hv, h1, h2, _⟩ := HS.out; injection hv with e1 e2 e3; subst e2 e3; exact ⟨h1, h2⟩
    obtain ⟨j, hj⟩ : ∃ j, (m ≤ 40 ∧ j = m) ∨ (40 < m ∧ j = 40) := by
      by_cases h : m ≤ 40
      · exact ⟨m, .inl ⟨h, rfl⟩⟩
      · exact ⟨40, .inr ⟨by omega, rfl⟩⟩
    have hmin : min (m : Int) 40 = (j : Int) := by omega
    have hjm : j ≤ m := by omega
    have hj40 : j ≤ 40 := by omega
    obtain ⟨sv, hsv⟩ : ∃ sv, sv = Value.slice (if c = 0 then a else a.map (·.add (0 * 1))) j c := ⟨_, rfl⟩
    have hbs := HS.out.to j hjm
    rw [← hsv] at hbs
    have hsl := fun W => slice_to W a m c j (by omega)
    rw [← hsv] at hsl
    obtain ⟨sa, hsa⟩ : ∃ sa, sv = .slice sa j c := ⟨_, hsv⟩
    clear hsv hj hmc
    subst hsa
    have HLJ : Hid ((l.take j).length ≤ 40) := by unfold Hid; rw [List.length_take]; omega
    obtain ⟨w0, hw0⟩ : ∃ w0, w0 = ((w.alloc (.cells #[.int .i64 k, .bool neg, .slice a m c, .int .u64 (b : Int), .string tx, .slice ka kn kc] 33)).alloc (.cells #[.int .i64 0, .bool false, .slice none 0 0, .int .u64 0, .string ⟨#[]⟩, .slice none 0 0] 33)) := ⟨_, rfl⟩
    have HW0 := Lib.hid hw0
    have HSJ := Lib.hid (hbs.old HB0.out)
    rw [← hw0] at HSJ HB0 HK0 HKA
    have hz0 : w0.heap.size = w.heap.size + 2 := by rw [hw0]; simp
    have HZ0 := Lib.hid hz0
    have HCX : Hid (∀ W, Only (· = w.heap.size + 1) w0 W → W.cell? ⟨w.heap.size, 1, none⟩ = some (.bool neg) ∧ W.cell? ⟨w.heap.size, 2, none⟩ = some (.slice a m c)) := fun W h => by
      have k1 := HKA.out.only h (by omega)
      exact ⟨(k1.cell 1).trans rfl, (k1.cell 2).trans rfl⟩
    have HO0 := Lib.hid (Only.refl (· = w.heap.size + 1) w0).drew
    have C0 := Lib.hid (Below.refl w0.heap.size w0).drew
    clear hbs hw0 hz0 hjm
    go_enter Tryz.func11, Tryz.ntmps11
    go_upto_region 8 with fail
    rw [← HW0.out]
    go_region_held3 (fun W => W.cell? ⟨w.heap.size, 1, none⟩ = some (.bool neg) ∧ W.cell? ⟨w.heap.size, 2, none⟩ = some (.slice a m c))
      (first | (refine HCX.out _ ?_; first | with_reducible exact HO0.out | with_reducible exact HO1.out | with_reducible exact HO2.out | ((with_reducible refine HO2.out.trans ?_); exact six_set _ _ _ _ _ _ _ _)) | go_keep)
      (first
      | (go_at_call 24; refine (of_any neg sa j c (l.take j) _ (HSJ.out.old C0.out) (Nat.le_trans HLJ.out (by decide))).mono ?_; rintro e w1 ⟨v1, rfl, hsi, hb1⟩; have HO1 := Lib.hid (HO0.out.below hb1); have C1 := Lib.hid (C0.out.trans (hb1.mono C0.out.size)); have HIV := Lib.hid (intval_any _ _ _ _ _ hsi (Nat.le_trans (strip_le _) (Nat.le_trans HLJ.out (by decide)))); clear hb1 hsi)
      | (go_at_call 23; refine HIV.out.mono ?_; rintro e w2 ⟨vi, rfl, hiv, hb2⟩; have HO2 := Lib.hid (HO1.out.below hb2); have C2 := Lib.hid (C1.out.trans (hb2.mono C1.out.size)); obtain ⟨vs, hvi, ho, hh, hng⟩ := hiv; obtain ⟨g, cc, hvs, _, _, _, _⟩ := ho.form; obtain ⟨rr, hrr⟩ : ∃ r, r = (strip (l.take j)).length := ⟨_, rfl⟩; rw [← hrr] at hvs; subst hvs; subst hvi; obtain ⟨ng, hngq⟩ : ∃ q, q = negOf neg (l.take j) := ⟨_, rfl⟩; rw [← hngq] at hng ⊢; have HNGQ := Lib.hid hngq; have HO := Lib.hid ho; have HH := Lib.hid hh; have HNG := Lib.hid hng; obtain ⟨c0, c1, c2, c3, c4, c5, f0, f1, f2, f3, f4, f5⟩ := blk6 (HK0.out.below C2.out HK0.out.lt); clear hb2 ho hh hng hrr hngq))
    go_wp2
    refine bodyPost_ret (v := .agg #[.int .i64 2, .bool ng, .slice (some ⟨g, 0, none⟩) rr cc, .int .u64 0, .string ⟨#[]⟩, .slice none 0 0]) (by simp [results, Tryz.results11, go_sem, pv, c0, c1, c2, c3, c4, c5]) rfl ⟨_, .int ng (strip (l.take j)), rfl, ⟨⟨.slice (some ⟨g, 0, none⟩) rr cc, rfl, ?_, HH.out, HNG.out⟩, Nat.le_trans (strip_le _) HLJ.out⟩, ?_⟩
    · have hz := HZ0.out
      have s1 := C1.out.size
      exact (HO.out.only (six_set w2 (w.heap.size + 1) (.int .i64 2) (.bool ng) (.slice (some ⟨g, 0, none⟩) rr cc) (.int .u64 0) (.string ⟨#[]⟩) (.slice none 0 0)) (fun k hk e => by omega)).base (by omega)
    · exact (HB0.out.trans (C2.out.mono HB0.out.size)).trans ((six_set w2 (w.heap.size + 1) (.int .i64 2) (.bool ng) (.slice (some ⟨g, 0, none⟩) rr cc) (.int .u64 0) (.string ⟨#[]⟩) (.slice none 0 0)).to_below (HB0.out.trans (C2.out.mono HB0.out.size)).size (fun k _ e => by omega))
  · go_enter Tryz.func11, Tryz.ntmps11
    go_wp2
    exact bodyPost_ret (v := pv 3 false none 0 0 (b : Int) ⟨#[]⟩ none 0 0) (by simp [results, Tryz.results11, go_sem, pv]) rfl ⟨_, .float b, rfl, rfl, HBX.out.alloc (by simp) _⟩
end Go.Proofs.YteibkaonofkcbaaGreat
