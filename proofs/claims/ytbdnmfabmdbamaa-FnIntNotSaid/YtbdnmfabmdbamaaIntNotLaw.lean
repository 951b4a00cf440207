/- The law's walk: an int with all bits turned. -/
import Derived.Test.YtbdnmfabmdbamaaStarNot
import Derived.Test.YtbdnmfabmdbamaaSpecNot
import Derived.Test.YtbdnmfabmdbamaaIntEqualLaw
namespace Go.Proofs.Ytbdnmfabmdbamaa
open Go.RowKit
attribute [local go_sem ↓] Go.wp_at_zero Go.wp_at_succ
theorem num_same {n1 n2 : Bool} {l1 l2 : List Nat} {n : Int} (h1 : intOf2 n1 l1 = n) (h2 : intOf2 n2 l2 = n) (a1 : l1.head? ≠ some 0) (a2 : l2.head? ≠ some 0) (b1 : ∀ x ∈ l1, x < 256) (b2 : ∀ x ∈ l2, x < 256) (c1 : n1 = true → l1 ≠ []) (c2 : n2 = true → l2 ≠ []) : n1 = n2 ∧ l1 = l2 := by
  have z1 := natOf_eq_zero a1
  have z2 := natOf_eq_zero a2
  have e : natOf l1 = natOf l2 := by unfold intOf2 at h1 h2; cases n1 <;> cases n2 <;> simp at h1 h2 <;> omega
  refine ⟨?_, natOf_unique b1 b2 a1 a2 e⟩
  cases n1 <;> cases n2
  · rfl
  · exfalso
    have h3 : natOf l2 ≠ 0 := fun h => c2 rfl (z2.1 h)
    unfold intOf2 at h1 h2; simp at h1 h2; omega
  · exfalso
    have h3 : natOf l1 ≠ 0 := fun h => c1 rfl (z1.1 h)
    unfold intOf2 at h1 h2; simp at h1 h2; omega
  · rfl
set_option maxRecDepth 20000 in
set_option maxHeartbeats 2000000 in
theorem is_same (B B' : Nat) (v x : Value) (neg : Bool) (l : List Nat) (w : World) (hv : NumV w B' v neg l) (hx : SInt w B x neg l) (hl : l.length ≤ 1000000) :
    Calls Try.prog 18 #[v, x] w fun e w' => e = .returned (.bool true) ∧ Below w.heap.size w w' := by
  obtain ⟨g, o, c, rfl, hbs, _, _, _⟩ := hv
  obtain ⟨vs, rfl, hob, _, _⟩ := hx
  obtain ⟨g2, c2, hvs, _, hg2, _, _⟩ := hob.form
  obtain ⟨m, hm⟩ : ∃ m, m = l.length := ⟨_, rfl⟩
  rw [← hm] at hvs hbs ⊢
  subst hvs
  have C0 : Hid (Below w.heap.size w ((w.alloc (.cells #[.int .i64 2, .bool neg, .slice (some ⟨g, o, none⟩) m c, .int .u64 0, .string ⟨#[]⟩, .slice none 0 0] 28)).alloc (.cells #[.bool neg, .slice (some ⟨g2, 0, none⟩) m c2] 24))) := ((Below.refl _ w).alloc (Nat.le_refl _) _).alloc (by simp) _
  have HO := Lib.hid (hob.below C0.out)
  have HBS := Lib.hid (hbs.old C0.out)
  have HM := Lib.hid hm
  have hb1 : ((m : Int) != (m : Int)) = false := by simp
  have hb2 : (neg != neg) = false := by simp
  have hmb : m ≤ 1000000 := by omega
  clear hbs hob hm hg2
  go_enter Try.func18, Try.ntmps18
  go_wp2_with fail
  obtain ⟨W0, hW0⟩ : ∃ W0, W0 = ((w.alloc (.cells #[.int .i64 2, .bool neg, .slice (some ⟨g, o, none⟩) m c, .int .u64 0, .string ⟨#[]⟩, .slice none 0 0] 28)).alloc (.cells #[.bool neg, .slice (some ⟨g2, 0, none⟩) m c2] 24)) := ⟨_, rfl⟩
  have K1 : Hid (Blk W0 w.heap.size 28 #[.int .i64 2, .bool neg, .slice (some ⟨g, o, none⟩) m c, .int .u64 0, .string ⟨#[]⟩, .slice none 0 0]) := by
    rw [hW0]; exact Blk.alloc (Blk.new w _ _) _
  have K2 : Hid (Blk W0 (w.heap.size + 1) 24 #[.bool neg, .slice (some ⟨g2, 0, none⟩) m c2]) := by
    rw [hW0]; exact Blk.new_at _ _ _ (by simp)
  rw [← hW0] at HO HBS C0 ⊢
  clear hW0
  go_loopw [44] (fun iv wr => ∃ i : Nat, i ≤ m ∧ iv = .int .i64 (i : Int) ∧ Hid (∃ q, wr = W0.drewN q)) (fun iv _ => m - (intOf iv).toNat)
  case atStart => exact ⟨0, Nat.zero_le _, rfl, 0, rfl⟩
  case round =>
    obtain ⟨i, hi, rfl, hw⟩ := hrel
    by_cases him : i < m
    · have hil : i < l.length := by rw [← HM.out]; exact him
      obtain ⟨y, hy⟩ : ∃ y, y = l[i]'hil := ⟨_, rfl⟩
      have hB := HO.out.bsl
      have hcw1 : wr.cell? ⟨g, o + i, none⟩ = some (.int .u8 (y : Int)) := by
        obtain ⟨q, rfl⟩ := hw.out
        obtain ⟨a', c', hv, _, _, _, _, h5⟩ := HBS.out
        injection hv with e1
        have := h5 _ e1.symm i hil
        rw [hy]
        simpa [Addr.add_lit] using this
      have hcw2 : wr.cell? ⟨g2, i, none⟩ = some (.int .u8 (y : Int)) := by
        obtain ⟨q, rfl⟩ := hw.out
        have := HO.out.cell i hil
        rw [← hy] at this
        exact this
      have k1 : Blk wr w.heap.size 28 #[.int .i64 2, .bool neg, .slice (some ⟨g, o, none⟩) m c, .int .u64 0, .string ⟨#[]⟩, .slice none 0 0] := by obtain ⟨q, rfl⟩ := hw.out; exact K1.out
      have k2 : Blk wr (w.heap.size + 1) 24 #[.bool neg, .slice (some ⟨g2, 0, none⟩) m c2] := by obtain ⟨q, rfl⟩ := hw.out; exact K2.out
      obtain ⟨a0, a1, a2, a3, a4, a5, _⟩ := blk6 k1
      obtain ⟨b0, b1, _⟩ := blk2 k2
      have him' : (i : Int) < (m : Int) := by omega
      have hyy : ((y : Int) != (y : Int)) = false := by simp
      clear hy hB k1 k2
      go_wp2_with fail
      go_quiet (fail)
      go_wp2
      go_roundw
      case rel => exact ⟨i + 1, by omega, by go_num, by obtain ⟨q, rfl⟩ := hw.out; exact ⟨q + _, World.drewN_drewN _ _ _⟩⟩
      case measure => simp [intOf]; omega
    · obtain rfl : i = m := by omega
      go_wp2
      go_ret
      refine ⟨rfl, ?_⟩
      obtain ⟨q, rfl⟩ := hw.out
      exact below_dn C0.out q
set_option maxRecDepth 20000 in
set_option maxHeartbeats 2000000 in
theorem impl_not (B : Nat) (v : Value) (neg : Bool) (l : List Nat) (w : World) (hv : IVal w B v neg l) (hl : l.length ≤ 1000) :
    Calls Try.prog 19 #[v] w (NumVPost (-(intOf2 neg l) - 1) w) := by
  have hv' := hv
  obtain ⟨vs, rfl, hob, hh, hn⟩ := hv'
  obtain ⟨g, c, hvs, _, _, _, _⟩ := hob.form
  obtain ⟨m, hm⟩ : ∃ m, m = l.length := ⟨_, rfl⟩
  rw [← hm] at hvs
  subst hvs
  have HBND : Hid (∃ K, K ≤ 900 ∧ (intOf2 neg l).natAbs < W64 ^ K) := by
    refine ⟨125, by omega, ?_⟩
    have h1 := natOf_lt l hob.2.2
    obtain ⟨K, hK⟩ : ∃ K : Nat, K = 125 := ⟨_, rfl⟩
    rw [← hK]
    have h2 : 256 ^ l.length ≤ 256 ^ (8 * K) := Nat.pow_le_pow_right (by omega) (by omega)
    rw [pow256_8] at h2
    unfold intOf2
    cases neg <;> simp <;> omega
  have HI := Lib.hid hv
  have HL := Lib.hid hl
  have HK := Lib.hid (Blk.new_at (w.alloc (.cells #[.int .i64 2, .bool neg, .slice (some ⟨g, 0, none⟩) m c, .int .u64 0, .string ⟨#[]⟩, .slice none 0 0] 28)) 28 #[.int .i64 0, .bool false, .slice none 0 0, .int .u64 0, .string ⟨#[]⟩, .slice none 0 0] (n := w.heap.size + 1) (by simp))
  have HB0 : Hid (∀ a b : Obj, Below w.heap.size w ((w.alloc a).alloc b)) := fun a b => ((Below.refl _ w).alloc (Nat.le_refl _) a).alloc (by simp) b
  clear hv hob hh hn hm hl
  go_enter Try.func19, Try.ntmps19
  go_wp2_with fail
  refine (impl_whole B _ neg l _ (HI.out.below (HB0.out _ _)) HL.out).mono ?_
  rintro e w1 ⟨v1, rfl, hsi, hb1⟩
  obtain ⟨x, p, hv1⟩ := si_fin (w' := w1) hsi
  have HSI := Lib.hid hsi
  subst hv1
  have HB1 := Lib.hid ((HB0.out _ _).trans (hb1.mono (HB0.out _ _).size))
  have k1 := Lib.hid (HK.out.below hb1 (by simp))
  obtain ⟨K, hK, hKn⟩ := HBND.out
  have HSN := Lib.hid (fun W hW => star_not _ K (.agg #[.int .i64 x, .pointer p]) (intOf2 neg l) W (SI.below hsi hW) hK hKn)
  clear hsi hb1 hK hKn
  go_wp2_with fail
  refine (HSN.out _ (Below.refl _ _)).mono ?_
  rintro e w2 ⟨v2, rfl, hsi2, hb2⟩
  obtain ⟨x2, p2, hv2⟩ := si_fin (w' := w2) hsi2
  have HSI2 := Lib.hid hsi2
  subst hv2
  have HB2 := Lib.hid (HB1.out.trans (hb2.mono HB1.out.size))
  have k2 := Lib.hid (k1.out.below hb2 k1.out.lt)
  have hz2 : w.heap.size + 1 < w2.heap.size := k2.out.lt
  clear hsi2 hb2
  go_wp2_with fail
  refine (impl_number _ x2 p2 _ _ HSI2.out).mono ?_
  rintro e w3 ⟨v3, neg3, l3, rfl, ⟨g3, o3, c3, rfl, hbs3, hg3, hh3, hn3⟩, hval3, hb3⟩
  obtain ⟨q, hq⟩ : ∃ q, q = l3.length := ⟨_, rfl⟩
  rw [← hq] at hbs3 ⊢
  have HQ := Lib.hid hq
  have HBS3 := Lib.hid hbs3
  have HG3 := Lib.hid hg3
  have HH3 := Lib.hid hh3
  have HN3 := Lib.hid hn3
  have HVAL3 := Lib.hid hval3
  have HB3 := Lib.hid (HB2.out.trans (hb3.mono HB2.out.size))
  obtain ⟨e0, e1, e2, e3, e4, e5, f0, f1, f2, f3, f4, f5⟩ := blk6 (k2.out.below hb3 k2.out.lt)
  clear hq hbs3 hg3 hh3 hn3 hval3 hb3
  go_wp2
  refine bodyPost_ret (v := .agg #[.int .i64 2, .bool neg3, .slice (some ⟨g3, o3, none⟩) q c3, .int .u64 0, .string ⟨#[]⟩, .slice none 0 0]) (by simp [results, Try.results19, go_sem, e0, e1, e2, e3, e4, e5]) rfl ?_
  have hO := six_set w3 (w.heap.size + 1) (.int .i64 2) (.bool neg3) (.slice (some ⟨g3, o3, none⟩) q c3) (.int .u64 0) (.string ⟨#[]⟩) (.slice none 0 0)
  refine ⟨_, neg3, l3, rfl, ⟨g3, o3, c3, by rw [HQ.out], ?_, by have := HG3.out; omega, HH3.out, HN3.out⟩, HVAL3.out, ?_⟩
  · rw [← HQ.out]
    exact bsl_only HBS3.out hO (fun p e => by injection e with e; subst e; have := HG3.out; show g3 ≠ _; omega)
  · exact ((((((HB3.out.setCell (p := ⟨w.heap.size + 1, 0, none⟩) (by simp) _).setCell (p := ⟨w.heap.size + 1, 1, none⟩) (by simp) _).setCell (p := ⟨w.heap.size + 1, 2, none⟩) (by simp) _).setCell (p := ⟨w.heap.size + 1, 3, none⟩) (by simp) _).setCell (p := ⟨w.heap.size + 1, 4, none⟩) (by simp) _).setCell (p := ⟨w.heap.size + 1, 5, none⟩) (by simp) _)
theorem NumV.old {w w' : World} {B : Nat} {v : Value} {neg : Bool} {l : List Nat} (h : NumV w B v neg l) (hb : Below w.heap.size w w') : NumV w' B v neg l := by
  obtain ⟨g, o, c, e, hbs, hr⟩ := h
  exact ⟨g, o, c, e, hbs.old hb, hr⟩
theorem cells_eight {w1 W : World} {t1 t2 : TypeId} {a b d0 d1 d2 d3 d4 d5 : Value} (h : Below (w1.heap.size + 1 + 1) ((w1.alloc (.cells #[a, b] t1)).alloc (.cells #[d0, d1, d2, d3, d4, d5] t2)) W) :
    W.cell? ⟨w1.heap.size, 0, none⟩ = some a ∧ W.cell? ⟨w1.heap.size, 1, none⟩ = some b ∧ W.cell? ⟨w1.heap.size + 1, 0, none⟩ = some d0 ∧ W.cell? ⟨w1.heap.size + 1, 1, none⟩ = some d1 ∧ W.cell? ⟨w1.heap.size + 1, 2, none⟩ = some d2 ∧ W.cell? ⟨w1.heap.size + 1, 3, none⟩ = some d3 ∧ W.cell? ⟨w1.heap.size + 1, 4, none⟩ = some d4 ∧ W.cell? ⟨w1.heap.size + 1, 5, none⟩ = some d5 := by
  obtain ⟨h1, h2, _⟩ := pair1 h
  obtain ⟨e0, e1, _⟩ := blk2 h1
  obtain ⟨f0, f1, f2, f3, f4, f5, _⟩ := blk6 h2
  exact ⟨e0, e1, f0, f1, f2, f3, f4, f5⟩
theorem pair_b {w1 w2 : World} {t1 t2 : TypeId} {cs1 cs2 : Array Value} (hb2 : Below (w1.heap.size + 1 + 1) ((w1.alloc (.cells cs1 t1)).alloc (.cells cs2 t2)) w2) : Below w1.heap.size w1 w2 :=
  (((Below.refl _ w1).alloc (Nat.le_refl _) _).alloc (by simp) _).trans (hb2.mono (by omega))
theorem pair_z {w1 w2 : World} {t1 t2 : TypeId} {cs1 cs2 : Array Value} (hb2 : Below (w1.heap.size + 1 + 1) ((w1.alloc (.cells cs1 t1)).alloc (.cells cs2 t2)) w2) : w1.heap.size + 1 + 1 ≤ w2.heap.size := by
  have := hb2.size
  simpa using this
theorem numv_lit {w : World} {B : Nat} {v : Value} {neg : Bool} {l : List Nat} (h : NumV w B v neg l) : ∃ g o c, v = .agg #[.int .i64 2, .bool neg, .slice (some ⟨g, o, none⟩) l.length c, .int .u64 0, .string ⟨#[]⟩, .slice none 0 0] := by
  obtain ⟨g, o, c, e, _⟩ := h
  exact ⟨g, o, c, e⟩
theorem same_of {w w' : World} {B B' : Nat} {v v' : Value} {n n' : Bool} {l l' : List Nat} {k : Int} (h : NumV w B v n l) (e : intOf2 n l = k) (h' : SInt w' B' v' n' l') (e' : intOf2 n' l' = k) : n = n' ∧ l = l' := by
  obtain ⟨_, _, _, _, hbs, _, hh, hn⟩ := h
  obtain ⟨_, _, ho, hh', hn'⟩ := h'
  obtain ⟨_, _, _, _, _, hb, _⟩ := hbs
  exact num_same e e' hh hh' hb ho.2.2 hn hn'
theorem not_len {w' : World} {B' : Nat} {v' : Value} {n n' : Bool} {l l' : List Nat} (hl : l.length ≤ 1000) (h : SInt w' B' v' n' l') {w0 : World} {B0 : Nat} {v0 : Value} (h0 : SInt w0 B0 v0 n l) (e : intOf2 n' l' = -(intOf2 n l) - 1) : l'.length ≤ 1000000 := by
  obtain ⟨_, _, _, hh, _⟩ := h
  obtain ⟨_, _, ho, _, _⟩ := h0
  have h1 := natOf_lt l ho.2.2
  obtain ⟨K, hK⟩ : ∃ K : Nat, K = 1000 := ⟨_, rfl⟩
  have h2 : 256 ^ l.length ≤ 256 ^ K := Nat.pow_le_pow_right (by omega) (by omega)
  have h3 : natOf l' < 256 ^ (K + 1) := by
    rw [Nat.pow_succ]
    have h4 : 0 < 256 ^ K := Nat.pow_pos (by omega)
    unfold intOf2 at e
    cases n <;> cases n' <;> simp at e <;> omega
  have := natOf_lenle hh (K + 1) h3
  omega
set_option maxRecDepth 20000 in
set_option maxHeartbeats 1600000 in
theorem law_not (an : Bool) (a : Option Addr) (len cap : Nat) (zs : List Int) (w : World) (h : IsRow .u8 w a len cap zs) :
    Calls Try.prog 6 #[.bool an, .slice a len cap] w fun e w' => e = .returned (.bool true) ∧ Below w.heap.size w w' := by
  by_cases hs : len ≤ 2147483647
  · have hd : decide ((2147483647 : Int) < (len : Int)) = false := by simp; omega
    obtain ⟨nb, ll, hl, _, hwa⟩ := whole_of an a len cap zs w h 400 (by omega)
    have HL := Lib.hid hl
    have HWA := Lib.hid hwa
    clear hl hwa h hs
    go_enter Try.func6, Try.ntmps6
    go_wp2_with fail
    refine (HWA.out _ (Below.refl _ _)).mono ?_
    rintro e w1 ⟨v, u, rfl, hsi, hiv, hb1⟩
    have HSI := Lib.hid hsi
    have HIV := Lib.hid hiv
    have HB1 := Lib.hid hb1
    obtain ⟨vs, rfl, hov, _, _⟩ := hsi
    obtain ⟨us, rfl, hou, _, _⟩ := hiv
    obtain ⟨g, c, hvs, _, _, _, _⟩ := hov.form
    obtain ⟨g2, c2, hus, _, _, _, _⟩ := hou.form
    obtain ⟨r, hr⟩ : ∃ r, r = ll.length := ⟨_, rfl⟩
    rw [← hr] at hvs hus
    subst hvs hus
    have C0 := Lib.hid (Below.refl (w1.heap.size + 1 + 1) ((w1.alloc (.cells #[.bool nb, .slice (some ⟨g, 0, none⟩) r c] 24)).alloc (.cells #[.int .i64 2, .bool nb, .slice (some ⟨g2, 0, none⟩) r c2, .int .u64 0, .string ⟨#[]⟩, .slice none 0 0] 28)))
    clear hb1 hov hou hr
    go_wp2_with fail
    go_region_held3 (fun W => W.cell? ⟨w1.heap.size, 0, none⟩ = some (.bool nb) ∧ W.cell? ⟨w1.heap.size, 1, none⟩ = some (.slice (some ⟨g, 0, none⟩) r c) ∧ W.cell? ⟨w1.heap.size + 1, 0, none⟩ = some (.int .i64 2) ∧ W.cell? ⟨w1.heap.size + 1, 1, none⟩ = some (.bool nb) ∧ W.cell? ⟨w1.heap.size + 1, 2, none⟩ = some (.slice (some ⟨g2, 0, none⟩) r c2) ∧ W.cell? ⟨w1.heap.size + 1, 3, none⟩ = some (.int .u64 0) ∧ W.cell? ⟨w1.heap.size + 1, 4, none⟩ = some (.string ⟨#[]⟩) ∧ W.cell? ⟨w1.heap.size + 1, 5, none⟩ = some (.slice none 0 0))
      (first | exact cells_eight C3.out | exact cells_eight C2.out | exact cells_eight C1.out | exact cells_eight C0.out | go_keep)
      (first
      | (go_at_call 19; refine (impl_not _ _ nb ll _ (HIV.out.below (pair_b C0.out.drew)) HL.out).mono ?_; rintro e w2 ⟨v2, n2, l2, rfl, hnv, hval2, hb2⟩; have C1 := Lib.hid (C0.out.drew.trans (hb2.mono (pair_z C0.out.drew))); have HNV := Lib.hid hnv; have HVAL2 := Lib.hid hval2; obtain ⟨g5, o5, c5, hv2⟩ := numv_lit hnv; obtain ⟨r5, hr5⟩ : ∃ r, r = l2.length := ⟨_, rfl⟩; rw [← hr5] at hv2; subst hv2; clear hnv hval2 hb2 hr5)
      | (go_at_call 20; refine (spec_not _ _ nb ll _ (HSI.out.below (pair_b C1.out)) (by have := HL.out; omega)).mono ?_; rintro e w3 ⟨v3, n3, l3, rfl, hsi3, hby3, hval3, hb3⟩; have C2 := Lib.hid (C1.out.trans (hb3.mono (pair_z C1.out))); have HNV2 := Lib.hid (HNV.out.old hb3); have HS3 := Lib.hid hsi3; obtain ⟨hq1, hq2⟩ := same_of HNV.out HVAL2.out hsi3 hval3; subst hq1 hq2; have HL3 := Lib.hid (not_len HL.out hsi3 HSI.out hval3); obtain ⟨g6, c6, hv3⟩ := hsi3.lit2; obtain ⟨r6, hr6⟩ : ∃ r, r = l2.length := ⟨_, rfl⟩; rw [← hr6] at hv3; subst hv3; clear hsi3 hby3 hval3 hb3 hr6)
      | (go_at_call 18; refine (is_same _ _ _ _ n2 l2 _ HNV2.out HS3.out HL3.out).mono ?_; rintro e w4 ⟨rfl, hb4⟩; have C3 := Lib.hid (C2.out.trans (hb4.mono (pair_z C2.out))); clear hb4))
    all_goals
      go_wp2
      go_ret
      exact ⟨rfl, HB1.out.trans ((pair_b C3.out).mono HB1.out.size)⟩
  · have hd : decide ((2147483647 : Int) < (len : Int)) = true := by simp; omega
    go_enter Try.func6, Try.ntmps6
    go_wp2
    go_ret
    exact ⟨rfl, Below.refl _ _⟩
end Go.Proofs.Ytbdnmfabmdbamaa
