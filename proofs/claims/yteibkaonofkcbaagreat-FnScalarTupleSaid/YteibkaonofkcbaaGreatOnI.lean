/- A step over a tuple: an element, a slice. -/
import Derived.Test.YteibkaonofkcbaaGreatOnT
namespace Go.Proofs.YteibkaonofkcbaaGreat
open Go.RowKit
set_option linter.unusedSimpArgs false
set_option linter.unusedVariables false
attribute [local go_sem ↓] Go.wp_at_zero Go.wp_at_succ
set_option maxRecDepth 100000 in
set_option maxHeartbeats 8000000 in
theorem on_index (B P n tc : Nat) (ta : Option Addr) (pw : Value) (bs : List Nat) (at' : List (Option Nat)) (ts : List (Value × Sx)) (i : Nat) (sj sm : Int) (r0 r1 r2 r3 r4 r5 r6 r7 r8 r9 r10 r11 r12 : Value) (w : World) (h : PS w B P pw bs at' ts) (hseg : SegV w ta n tc ts) (hi : i < ts.length) (hN : ∀ p ∈ ts, NormX p.2) (h8 : ts.length ≤ 8) : Calls Tryz.prog 21 #[.slice ta n tc, .pointer (some ⟨P, 0, none⟩), .agg #[.int .i64 2, .int .i64 (i : Int), .int .i64 sj, .int .i64 sm, r0, r1, r2, r3, r4, r5, r6, r7, r8, r9, r10, r11, r12]] w (OnP B P ts at' ⟨false, 0, .one (ts[i]'hi).2⟩ w) := by
  obtain ⟨W0, hW0⟩ : ∃ W0, W0 = ((w.alloc (.cells #[.int .i64 2, .int .i64 (i : Int), .int .i64 sj, .int .i64 sm, r0, r1, r2, r3, r4, r5, r6, r7, r8, r9, r10, r11, r12] 35)).alloc (.cells #[.bool false, .bool false, .int .i64 0, .int .i64 0, .bool false, .slice none 0 0, .int .u64 0, .string ⟨#[]⟩, .slice none 0 0, .slice none 0 0] 37)) := ⟨_, rfl⟩
  have hb0 : Below w.heap.size w W0 := by rw [hW0]; exact ((Below.refl w.heap.size w).alloc (Nat.le_refl _) _).alloc (by simp) _
  have HK5 : Hid (Blk W0 w.heap.size 35 #[.int .i64 2, .int .i64 (i : Int), .int .i64 sj, .int .i64 sm, r0, r1, r2, r3, r4, r5, r6, r7, r8, r9, r10, r11, r12]) := by rw [hW0]; exact (Blk.new w _ _).alloc _
  have HK6 : Hid (Blk W0 (w.heap.size + 1) 37 #[.bool false, .bool false, .int .i64 0, .int .i64 0, .bool false, .slice none 0 0, .int .u64 0, .string ⟨#[]⟩, .slice none 0 0, .slice none 0 0]) := by rw [hW0]; exact Blk.new_at _ _ _ (by simp)
  have HZ0 : Hid (W0.heap.size = w.heap.size + 2) := by rw [hW0]; simp [Hid]
  have HPS0 := Lib.hid (h.below hb0)
  have HB0 := Lib.hid hb0
  have hin : i < n := by have := hseg.1.1; omega
  have hi0 : (0 : Int) ≤ (i : Int) := by omega
  have hi1 : (i : Int) < (n : Int) := by omega
  have d1 : decide ((i : Int) < 0) = false := by simp
  have d2 : decide ((n : Int) ≤ (i : Int)) = false := by simp; omega
  have d3 : decide (n ≤ i) = false := by simp; omega
  have s1 : W0.cell? ⟨w.heap.size, 1, none⟩ = some (.int .i64 (i : Int)) := (HK5.out.cell 1).trans rfl
  have HSEG := Lib.hid (hseg.below hb0)
  have HHI := Lib.hid hi
  have HTI := Lib.hid (fun W (k : Below W0.heap.size W0 W) => tup_index ta n tc i ts W ((hseg.below hb0).below k).1 hi)
  obtain ⟨p, ut, ux, hp, hui, _⟩ := hseg.1.at i hi
  have HTS := Lib.hid (fun W (k : Below W0.heap.size W0 W) => tell_scalar _ _ W (((hseg.below hb0).below k).1.2.2.2.2.2 _ (List.getElem_mem hi)) (hN _ (List.getElem_mem hi)))
  rw [hui] at HTI HTS
  obtain ⟨sx, hsx⟩ : ∃ sx, sx = (ts[i]'hi).2 := ⟨_, rfl⟩
  rw [← hsx] at HTS ⊢
  clear h hseg hb0 hin hN hui hsx hp hi
  go_enter Tryz.func21, Tryz.ntmps21
  go_upto_region 3 with fail
  rw [← hW0]
  clear hW0
  go_quiet ((go_at_call 43; exact quiet_same (tup_len ta n tc _)))
  obtain ⟨W1, hW1⟩ : ∃ W1, W1 = W0.drewN nq := ⟨_, rfl⟩
  rw [← hW1]
  have HB1 : Hid (Below W0.heap.size W0 W1) := by rw [hW1]; exact below_dn (Below.refl _ _) _
  replace s1 : W1.cell? ⟨w.heap.size, 1, none⟩ = some (.int .i64 (i : Int)) := by rw [hW1]; exact s1
  clear hW1 nq
  go_wp2_with fail
  refine (HTI.out _ HB1.out).mono ?_
  rintro e w1 ⟨rfl, rfl⟩
  go_wp2_with fail
  refine (HTS.out _ HB1.out).mono ?_
  rintro e w2 ⟨v2, rfl, hv2, hb2⟩
  obtain ⟨n1', a1, m1, c1, b1, x1, rfl⟩ := hv2.form
  obtain ⟨kd, hkd⟩ : ∃ kd, kd = kx sx := ⟨_, rfl⟩
  rw [← hkd] at hv2 ⊢
  have HV2 := Lib.hid hv2
  have HB2 := Lib.hid (HB1.out.trans (hb2.mono HB1.out.size))
  have hk6 := HK6.out.below HB2.out HK6.out.lt
  have HK62 := Lib.hid hk6
  obtain ⟨p0, p1, p2, p3, p4, p5, p6, p7, p8, p9, q0, q1, q2, q3, q4, q5, q6, q7, q8, q9⟩ := blk_ten hk6
  clear hv2 hb2 hk6 hkd
  unfold pv
  go_wp2
  have hO10 := ten_keep (g := w.heap.size + 1) (d0 := .bool true) (d1 := .bool false) (d2 := .int .i64 0) (d3 := .int .i64 kd) (d4 := .bool n1') (d5 := .slice a1 m1 c1) (d6 := .int .u64 b1) (d7 := .string x1) (d8 := .slice none 0 0) (d9 := .slice none 0 0) (Only.refl (· = w.heap.size + 1) w2) (.inl rfl)
  have hr5 : RVal (_ : World) (pv kd n1' a1 m1 c1 b1 x1 none 0 0) sx := HV2.out.apart (fun g hS hg => by
    obtain ⟨t, cs, hb, hm⟩ := (typ_one HK62.out) g hS hg
    exact ⟨t, cs, hb, fun e => absurd (e ▸ hm) (by decide)⟩) hO10
  refine bodyPost_ret (v := .agg #[.bool true, .bool false, .int .i64 0, .int .i64 kd, .bool n1', .slice a1 m1 c1, .int .u64 b1, .string x1, .slice none 0 0, .slice none 0 0]) (by simp [results, Tryz.results21, go_sem, p0, p1, p2, p3, p4, p5, p6, p7, p8, p9]) rfl ⟨false, 0, kd, n1', a1, m1, c1, b1, x1, none, 0, 0, pw, bs, rfl, rans_one hr5, (HPS0.out.below HB2.out).typ (typ_one HK62.out) hO10 (by decide) (by decide) (by decide) (by decide) (by decide) (by decide), ?_⟩
  exact ⟨fun _ => False, ten_keep (Only.of_below (HB0.out.trans (HB2.out.mono HB0.out.size))) (.inr (Nat.le_succ _)), fun g h _ => h.elim, fun q h => h.elim⟩
theorem cutX_mem (l : List Sx) (k : Nat) (i e m : Int) : ∀ s ∈ cutX l k i e m, s ∈ l ∨ s = .none := fun s hs => by
  obtain ⟨j', _, rfl⟩ := List.mem_map.1 hs
  rw [List.getD_eq_getElem?_getD]
  cases hq : l[j']? with
  | none => exact .inr rfl
  | some x => exact .inl (List.mem_of_getElem? hq)
set_option maxRecDepth 100000 in
set_option maxHeartbeats 8000000 in
theorem on_slice (B P n tc : Nat) (ta : Option Addr) (pw : Value) (bs : List Nat) (at' : List (Option Nat)) (ts : List (Value × Sx)) (si sj sm : Int) (r0 r1 r2 r3 r4 r5 r6 r7 r8 r9 r10 r11 r12 : Value) (w : World) (h : PS w B P pw bs at' ts) (hseg : SegV w ta n tc ts) (hbd : Bnd n si sj sm) (hN : ∀ p ∈ ts, NormX p.2) (h8 : ts.length ≤ 8) : Calls Tryz.prog 21 #[.slice ta n tc, .pointer (some ⟨P, 0, none⟩), .agg #[.int .i64 27, .int .i64 si, .int .i64 sj, .int .i64 sm, r0, r1, r2, r3, r4, r5, r6, r7, r8, r9, r10, r11, r12]] w (OnP B P ts at' ⟨false, 0, .many (cutX (ts.map (·.2)) 9 si sj sm)⟩ w) := by
  obtain ⟨W0, hW0⟩ : ∃ W0, W0 = ((w.alloc (.cells #[.int .i64 27, .int .i64 si, .int .i64 sj, .int .i64 sm, r0, r1, r2, r3, r4, r5, r6, r7, r8, r9, r10, r11, r12] 35)).alloc (.cells #[.bool false, .bool false, .int .i64 0, .int .i64 0, .bool false, .slice none 0 0, .int .u64 0, .string ⟨#[]⟩, .slice none 0 0, .slice none 0 0] 37)) := ⟨_, rfl⟩
  have hb0 : Below w.heap.size w W0 := by rw [hW0]; exact ((Below.refl w.heap.size w).alloc (Nat.le_refl _) _).alloc (by simp) _
  have HK5 : Hid (Blk W0 w.heap.size 35 #[.int .i64 27, .int .i64 si, .int .i64 sj, .int .i64 sm, r0, r1, r2, r3, r4, r5, r6, r7, r8, r9, r10, r11, r12]) := by rw [hW0]; exact (Blk.new w _ _).alloc _
  have HK6 : Hid (Blk W0 (w.heap.size + 1) 37 #[.bool false, .bool false, .int .i64 0, .int .i64 0, .bool false, .slice none 0 0, .int .u64 0, .string ⟨#[]⟩, .slice none 0 0, .slice none 0 0]) := by rw [hW0]; exact Blk.new_at _ _ _ (by simp)
  have HZ0 : Hid (W0.heap.size = w.heap.size + 2) := by rw [hW0]; simp [Hid]
  have HPS0 := Lib.hid (h.below hb0)
  have HB0 := Lib.hid hb0
  have s1 : W0.cell? ⟨w.heap.size, 1, none⟩ = some (.int .i64 si) := (HK5.out.cell 1).trans rfl
  have s2 : W0.cell? ⟨w.heap.size, 2, none⟩ = some (.int .i64 sj) := (HK5.out.cell 2).trans rfl
  have s3 : W0.cell? ⟨w.heap.size, 3, none⟩ = some (.int .i64 sm) := (HK5.out.cell 3).trans rfl
  have hn8 : n ≤ 8 := by have := hseg.1.1; omega
  have HTS := Lib.hid (fun W (k : Below W0.heap.size W0 W) => tup_slice ta n tc ts si sj sm W ((hseg.below hb0).below k).1 hn8 hbd)
  have HBD := Lib.hid hbd
  have HNX := Lib.hid hN
  have HLT := Lib.hid h8
  clear h hseg hb0 hN hbd
  go_enter Tryz.func21, Tryz.ntmps21
  go_upto_region 7 with fail
  rw [← hW0]
  clear hW0
  go_quiet ((first | (go_at_call 43; exact quiet_same (tup_len ta n tc _)) | (go_at_call 46; exact quiet_same (bounded_any n si sj sm _ HBD.out))))
  obtain ⟨W1, hW1⟩ : ∃ W1, W1 = W0.drewN nq := ⟨_, rfl⟩
  rw [← hW1]
  have HB1 : Hid (Below W0.heap.size W0 W1) := by rw [hW1]; exact below_dn (Below.refl _ _) _
  replace s1 : W1.cell? ⟨w.heap.size, 1, none⟩ = some (.int .i64 si) := by rw [hW1]; exact s1
  replace s2 : W1.cell? ⟨w.heap.size, 2, none⟩ = some (.int .i64 sj) := by rw [hW1]; exact s2
  replace s3 : W1.cell? ⟨w.heap.size, 3, none⟩ = some (.int .i64 sm) := by rw [hW1]; exact s3
  clear hW1 nq
  go_wp2_with fail
  refine (HTS.out _ HB1.out).mono ?_
  rintro e w2 ⟨q, qk, qd, qs, rfl, hq, hm, hb2⟩
  have hnq : ∀ p ∈ qs, NormX p.2 := fun p hp => by
    have h1 : p.2 ∈ qs.map (·.2) := List.mem_map.2 ⟨p, hp, rfl⟩
    rw [hm] at h1
    rcases cutX_mem _ _ _ _ _ _ h1 with h2 | h2
    · obtain ⟨p', hp', he⟩ := List.mem_map.1 h2
      rw [← he]
      exact HNX.out p' hp'
    · rw [h2]; trivial
  have hk9 : qk ≤ 1000 := by
    have h1 := hq.1
    have h2 := congrArg List.length hm
    rw [List.length_map] at h2
    have h3 := cutI_len 9 si sj sm
    unfold cutX at h2
    rw [List.length_map] at h2
    omega
  have HTT := Lib.hid (tell_scalars q qk qd qs w2 hq hnq hk9)
  have HM := Lib.hid hm
  have HB2 := Lib.hid (HB1.out.trans (hb2.mono HB1.out.size))
  clear hnq hk9 hq hm hb2
  go_wp2_with fail
  refine HTT.out.mono ?_
  rintro e w3 ⟨qa, qm, qc, us, rfl, hr, hum, hus, hb3⟩
  have HR := Lib.hid hr
  have HUM := Lib.hid hum
  have HUS := Lib.hid hus
  have HB3 := Lib.hid (HB2.out.trans (hb3.mono HB2.out.size))
  have hk6 := HK6.out.below HB3.out HK6.out.lt
  have HK62 := Lib.hid hk6
  obtain ⟨p0, p1, p2, p3, p4, p5, p6, p7, p8, p9, q0, q1, q2, q3, q4, q5, q6, q7, q8, q9⟩ := blk_ten hk6
  clear hr hum hus hb3 hk6
  go_wp2
  have hO10 := ten_keep (g := w.heap.size + 1) (d0 := .bool true) (d1 := .bool false) (d2 := .int .i64 0) (d3 := .int .i64 7) (d4 := .bool false) (d5 := .slice none 0 0) (d6 := .int .u64 0) (d7 := .string ⟨#[]⟩) (d8 := .slice qa qm qc) (d9 := .slice none 0 0) (Only.refl (· = w.heap.size + 1) w3) (.inl rfl)
  have hra : RAns 7 w3 [.bool true, .bool false, .int .i64 0, .int .i64 7, .bool false, .slice none 0 0, .int .u64 0, .string ⟨#[]⟩, .slice qa qm qc, .slice none 0 0] ⟨false, 0, .many (cutX (ts.map (·.2)) 9 si sj sm)⟩ := ⟨pv 7 false none 0 0 0 ⟨#[]⟩ qa qm qc, ⟨qa, qm, qc, us, rfl, ⟨own_base HR.out.1 (Nat.zero_le _), HR.out.2⟩, HUM.out, by rw [HUS.out, HM.out]⟩, rfl⟩
  refine bodyPost_ret (v := .agg #[.bool true, .bool false, .int .i64 0, .int .i64 7, .bool false, .slice none 0 0, .int .u64 0, .string ⟨#[]⟩, .slice qa qm qc, .slice none 0 0]) (by simp [results, Tryz.results21, go_sem, p0, p1, p2, p3, p4, p5, p6, p7, p8, p9]) rfl ⟨false, 0, 7, false, none, 0, 0, 0, ⟨#[]⟩, qa, qm, qc, pw, bs, rfl, hra.typ (typ_one HK62.out) hO10 (by decide) (by decide), (HPS0.out.below HB3.out).typ (typ_one HK62.out) hO10 (by decide) (by decide) (by decide) (by decide) (by decide) (by decide), ?_⟩
  exact ⟨fun _ => False, ten_keep (Only.of_below (HB0.out.trans (HB3.out.mono HB0.out.size))) (.inr (Nat.le_succ _)), fun g h _ => h.elim, fun q h => h.elim⟩
end Go.Proofs.YteibkaonofkcbaaGreat
