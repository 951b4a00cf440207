/- The law's walk: two ints are equal if they are. -/
import Derived.Test.YtbdnmfabmdbamaaImplEqual
import Derived.Test.YtbdnmfabmdbamaaIntSignLaw
import Derived.Deep.RegionHeld3
import Derived.Deep.DrawnRows
namespace Go.Proofs.Ytbdnmfabmdbamaa
open Go.RowKit
attribute [local go_sem ↓] Go.wp_at_zero Go.wp_at_succ
theorem whole_of (an : Bool) (a : Option Addr) (len cap : Nat) (zs : List Int) (w : World) (h : IsRow .u8 w a len cap zs) (K : Nat) (hK : K ≤ 1000) :
    ∃ nb ll, ll.length ≤ 1000 ∧ (∀ x ∈ ll, x < 256) ∧ (∀ W', Below w.heap.size w W' → Calls Try.prog 8 #[.bool an, .slice a len cap, .int .i64 (K : Int)] W' (fun e w' => ∃ v u, e = .returned (.tuple #[v, u]) ∧ SInt w' W'.heap.size v nb ll ∧ IVal w' W'.heap.size u nb ll ∧ Below W'.heap.size W' w')) := by
  obtain ⟨hb, hlen⟩ := bsl_of_row h
  obtain ⟨l, hl⟩ : ∃ l, l = (zs.take len).map Int.toNat := ⟨_, rfl⟩
  rw [← hl] at hb hlen
  obtain ⟨m, hm⟩ : ∃ m, (len ≤ K ∧ m = len) ∨ (K < len ∧ m = K) := by
    by_cases h4 : len ≤ K
    · exact ⟨_, .inl ⟨h4, rfl⟩⟩
    · exact ⟨_, .inr ⟨by omega, rfl⟩⟩
  refine ⟨negOf an (l.take m), strip (l.take m), ?_, ?_, fun W' hbw => whole_at an a len cap K m l W' (hb.old hbw) hK hm⟩
  · refine Nat.le_trans (strip_le _) ?_
    rw [List.length_take]
    omega
  · intro x hx
    have := List.mem_of_mem_take (strip_mem _ _ hx)
    obtain ⟨_, _, _, _, _, hby, _⟩ := hb
    exact hby x this
theorem pair1 {w1 w2 : World} {t1 t2 : TypeId} {cs1 cs2 : Array Value} (hb2 : Below (w1.heap.size + 1 + 1) ((w1.alloc (.cells cs1 t1)).alloc (.cells cs2 t2)) w2) :
    Blk w2 w1.heap.size t1 cs1 ∧ Blk w2 (w1.heap.size + 1) t2 cs2 ∧ w1.heap.size + 1 + 1 ≤ w2.heap.size :=
  ⟨((Blk.new w1 t1 cs1).alloc (.cells cs2 t2)).below hb2 (by omega), (Blk.new_at (w1.alloc (.cells cs1 t1)) t2 cs2 (n := w1.heap.size + 1) (by simp)).below hb2 (by omega), by have := hb2.size; simpa using this⟩
theorem pair2 {w w1 w2 W' : World} {t1 t2 : TypeId} {cs1 cs2 cs3 cs4 : Array Value} (hb1 : Below w.heap.size w w1) (hb2 : Below (w1.heap.size + 1 + 1) ((w1.alloc (.cells cs1 t1)).alloc (.cells cs2 t2)) w2)
    (h : Below (w2.heap.size + 1 + 1) ((w2.alloc (.cells cs3 t1)).alloc (.cells cs4 t2)) W') :
    Blk W' w1.heap.size t1 cs1 ∧ Blk W' (w1.heap.size + 1) t2 cs2 ∧ Blk W' w2.heap.size t1 cs3 ∧ Blk W' (w2.heap.size + 1) t2 cs4 ∧ Below w2.heap.size w2 W' ∧ Below w.heap.size w W' := by
  have hw2 : Below w2.heap.size w2 W' := (((Below.refl _ w2).alloc (Nat.le_refl _) _).alloc (by simp) _).trans (h.mono (by omega))
  have hw1 : Below w1.heap.size w1 w2 := (((Below.refl _ w1).alloc (Nat.le_refl _) _).alloc (by simp) _).trans (hb2.mono (by omega))
  have hz : w1.heap.size + 1 + 1 ≤ w2.heap.size := by have := hb2.size; simpa using this
  refine ⟨((Blk.new w1 t1 cs1).alloc (.cells cs2 t2)).below hb2 (by omega) |>.below hw2 (by omega), (Blk.new_at (w1.alloc (.cells cs1 t1)) t2 cs2 (n := w1.heap.size + 1) (by simp)).below hb2 (by omega) |>.below hw2 (by omega), ((Blk.new w2 t1 cs3).alloc (.cells cs4 t2)).below h (by omega), (Blk.new_at (w2.alloc (.cells cs3 t1)) t2 cs4 (n := w2.heap.size + 1) (by simp)).below h (by omega), hw2, ?_⟩
  exact hb1.trans ((hw1.mono hb1.size).trans (hw2.mono (Nat.le_trans hb1.size hw1.size)))
theorem pair2w {w1 w2 W' : World} {t1 t2 : TypeId} {cs1 cs2 cs3 cs4 : Array Value} (hb2 : Below (w1.heap.size + 1 + 1) ((w1.alloc (.cells cs1 t1)).alloc (.cells cs2 t2)) w2)
    (h : Below (w2.heap.size + 1 + 1) ((w2.alloc (.cells cs3 t1)).alloc (.cells cs4 t2)) W') : Below w1.heap.size w1 W' := by
  have hw2 : Below w2.heap.size w2 W' := (((Below.refl _ w2).alloc (Nat.le_refl _) _).alloc (by simp) _).trans (h.mono (by omega))
  have hw1 : Below w1.heap.size w1 w2 := (((Below.refl _ w1).alloc (Nat.le_refl _) _).alloc (by simp) _).trans (hb2.mono (by omega))
  exact hw1.trans (hw2.mono hw1.size)
theorem cells6 {W : World} {g h : Nat} {t : TypeId} {a0 a1 a2 a3 a4 a5 b0 b1 b2 b3 b4 b5 : Value} (h1 : Blk W g t #[a0, a1, a2, a3, a4, a5]) (h2 : Blk W h t #[b0, b1, b2, b3, b4, b5]) :
    W.cell? ⟨g, 0, none⟩ = some a0 ∧ W.cell? ⟨g, 1, none⟩ = some a1 ∧ W.cell? ⟨g, 2, none⟩ = some a2 ∧ W.cell? ⟨g, 3, none⟩ = some a3 ∧ W.cell? ⟨g, 4, none⟩ = some a4 ∧ W.cell? ⟨g, 5, none⟩ = some a5 ∧
    W.cell? ⟨h, 0, none⟩ = some b0 ∧ W.cell? ⟨h, 1, none⟩ = some b1 ∧ W.cell? ⟨h, 2, none⟩ = some b2 ∧ W.cell? ⟨h, 3, none⟩ = some b3 ∧ W.cell? ⟨h, 4, none⟩ = some b4 ∧ W.cell? ⟨h, 5, none⟩ = some b5 := by
  obtain ⟨e0, e1, e2, e3, e4, e5, _⟩ := blk6 h1
  obtain ⟨f0, f1, f2, f3, f4, f5, _⟩ := blk6 h2
  exact ⟨e0, e1, e2, e3, e4, e5, f0, f1, f2, f3, f4, f5⟩
theorem cells2 {W : World} {g h : Nat} {t : TypeId} {a0 a1 b0 b1 : Value} (h1 : Blk W g t #[a0, a1]) (h2 : Blk W h t #[b0, b1]) :
    W.cell? ⟨g, 0, none⟩ = some a0 ∧ W.cell? ⟨g, 1, none⟩ = some a1 ∧ W.cell? ⟨h, 0, none⟩ = some b0 ∧ W.cell? ⟨h, 1, none⟩ = some b1 := by
  obtain ⟨e0, e1, _⟩ := blk2 h1
  obtain ⟨f0, f1, _⟩ := blk2 h2
  exact ⟨e0, e1, f0, f1⟩
set_option maxRecDepth 20000 in
set_option maxHeartbeats 1600000 in
theorem int_equal (an : Bool) (a : Option Addr) (len cap : Nat) (zs : List Int) (bn : Bool) (b : Option Addr) (len2 cap2 : Nat) (zs2 : List Int) (w : World) (h : IsRow .u8 w a len cap zs) (h2 : IsRow .u8 w b len2 cap2 zs2) :
    Calls Try.prog 4 #[.bool an, .slice a len cap, .bool bn, .slice b len2 cap2] w fun e w' => e = .returned (.bool true) ∧ Below w.heap.size w w' := by
  by_cases hs : len ≤ 2147483647
  · by_cases hs2 : len2 ≤ 2147483647
    · have hd : decide ((2147483647 : Int) < (len : Int)) = false := by simp; omega
      have hd2 : decide ((2147483647 : Int) < (len2 : Int)) = false := by simp; omega
      obtain ⟨nb, ll, hl, _, hwa⟩ := whole_of an a len cap zs w h 400 (by omega)
      obtain ⟨nb2, ll2, hl2, _, hwb⟩ := whole_of bn b len2 cap2 zs2 w h2 400 (by omega)
      have HL := Lib.hid hl
      have HL2 := Lib.hid hl2
      have HWA := Lib.hid hwa
      have HWB := Lib.hid hwb
      clear hl hl2 hwa hwb h h2 hs hs2
      go_enter Try.func4, Try.ntmps4
      go_wp2_with fail
      refine (HWA.out _ (Below.refl _ _)).mono ?_
      rintro e w1 ⟨v, u, rfl, hsi, hiv, hb1⟩
      have HSI := Lib.hid hsi
      have HIV := Lib.hid hiv
      have HB1 := Lib.hid hb1
      obtain ⟨vs, rfl, hov, _, _⟩ := hsi
      obtain ⟨us, rfl, hou, _, _⟩ := hiv
      obtain ⟨g, c, hvs, _, _, _, _⟩ := hov.form
      obtain ⟨g2, c2, hus, _, _, _, _⟩ := hou.form
      obtain ⟨r, hr⟩ : ∃ r, r = ll.length := ⟨_, rfl⟩
      rw [← hr] at hvs hus
      subst hvs hus
      clear hb1 hov hou hr
      go_wp2_with fail
      refine (HWB.out _ (HB1.out.trans ((((Below.refl _ w1).alloc (Nat.le_refl _) _).alloc (by simp) _).mono HB1.out.size))).mono ?_
      rintro e w2 ⟨v2, u2, rfl, hsi2, hiv2, hb2⟩
      have HSI2 := Lib.hid hsi2
      have HIV2 := Lib.hid hiv2
      have HB2 := Lib.hid (show Below (w1.heap.size + 1 + 1) _ w2 from hb2.mono (by simp))
      obtain ⟨vs2, rfl, hov2, _, _⟩ := hsi2
      obtain ⟨us2, rfl, hou2, _, _⟩ := hiv2
      obtain ⟨g3, c3, hvs2, _, _, _, _⟩ := hov2.form
      obtain ⟨g4, c4, hus2, _, _, _, _⟩ := hou2.form
      obtain ⟨r2, hr2⟩ : ∃ r, r = ll2.length := ⟨_, rfl⟩
      rw [← hr2] at hvs2 hus2
      subst hvs2 hus2
      clear hb2 hov2 hou2 hr2
      obtain ⟨hk1, hk2, hz2⟩ := pair1 HB2.out
      obtain ⟨e0, e1, e2, e3, e4, e5, _⟩ := blk6 hk2
      have C0 := Lib.hid (Below.refl (w2.heap.size + 1 + 1) ((w2.alloc (.cells #[.bool nb2, .slice (some ⟨g3, 0, none⟩) r2 c3] 24)).alloc (.cells #[.int .i64 2, .bool nb2, .slice (some ⟨g4, 0, none⟩) r2 c4, .int .u64 0, .string ⟨#[]⟩, .slice none 0 0] 28)))
      have hz3 : w1.heap.size + 1 < w2.heap.size := hz2
      have hz4 : w1.heap.size < w2.heap.size := by omega
      clear hk1 hk2 hz2
      go_wp2_with fail
      refine (impl_equal _ _ _ _ nb nb2 ll ll2 _ (HIV.out.below (pair2w HB2.out C0.out)) (HIV2.out.below (pair2 HB1.out HB2.out C0.out).2.2.2.2.1) HL.out HL2.out).mono ?_
      rintro e w3 ⟨bb, rfl, hbb, hb3⟩
      have C1 := Lib.hid (C0.out.trans (hb3.mono (by simp)))
      have HBB := Lib.hid hbb
      clear hb3 hbb e0 e1 e2 e3 e4 e5
      obtain ⟨f0, f1, f2, f3⟩ := cells2 (pair2 HB1.out HB2.out C1.out).1 (pair2 HB1.out HB2.out C1.out).2.2.1
      go_wp2_with fail
      refine (spec_cmp _ (HSI.out.below (pair2w HB2.out C1.out)) (HSI2.out.below (pair2 HB1.out HB2.out C1.out).2.2.2.2.1)).mono ?_
      rintro e w4 ⟨rr, rfl, hrr, hiff, hb4⟩
      have HFIN := Lib.hid ((pair2 HB1.out HB2.out C1.out).2.2.2.2.2.trans (hb4.mono (pair2 HB1.out HB2.out C1.out).2.2.2.2.2.size))
      have hq : (rr == 0) = bb := by
        have h1 := HBB.out
        rw [Bool.eq_iff_iff, h1, beq_iff_eq]
        exact hiff
      clear hb4 hiff hrr
      go_wp2
      go_ret
      exact ⟨rfl, HFIN.out⟩
    · have hd : decide ((2147483647 : Int) < (len : Int)) = false := by simp; omega
      have hd2 : decide ((2147483647 : Int) < (len2 : Int)) = true := by simp; omega
      go_enter Try.func4, Try.ntmps4
      go_wp2
      go_ret
      exact ⟨rfl, Below.refl _ _⟩
  · have hd : decide ((2147483647 : Int) < (len : Int)) = true := by simp; omega
    go_enter Try.func4, Try.ntmps4
    go_wp2
    go_ret
    exact ⟨rfl, Below.refl _ _⟩
end Go.Proofs.Ytbdnmfabmdbamaa
