/- A script's iterators over a tuple: one goes on. -/
import Derived.Test.YteibkaonofkcbaaGreatIterT
namespace Go.Proofs.YteibkaonofkcbaaGreat
open Go.RowKit
set_option linter.unusedSimpArgs false
set_option linter.unusedVariables false
attribute [local go_sem ↓] Go.wp_at_zero Go.wp_at_succ
set_option maxRecDepth 100000 in
set_option maxHeartbeats 8000000 in
theorem it_next (B P i c : Nat) (pv : Value) (bs : List Nat) (at' : List (Option Nat)) (ts : List (Value × Sx)) (sj sm : Int) (r0 r1 r2 r3 r4 r5 r6 r7 r8 r9 r10 r11 r12 : Value) (w : World) (h : PS w B P pv bs at' ts) (hl : at'.length ≤ 1000) (hi : at'[i]? = some (some c)) (hN : ∀ p ∈ ts, NormX p.2) (h8 : ts.length ≤ 8) :
    Calls Tryz.prog 52 #[.pointer (some ⟨P, 0, none⟩), .agg #[.int .i64 6, .int .i64 (i : Int), .int .i64 sj, .int .i64 sm, r0, r1, r2, r3, r4, r5, r6, r7, r8, r9, r10, r11, r12]] w (fun e w' => ∃ at2 a, ((ts.length ≤ c ∧ at2 = at' ∧ a = ⟨false, 0, .one .none⟩) ∨ ∃ hc : c < ts.length, at2 = at'.set i (some (c + 1)) ∧ a = ⟨true, 0, .one (ts[c]'hc).2⟩) ∧ StepP B P i bs at2 ts pv a w e w') := by
  have HNX := Lib.hid hN
  clear hN
  obtain ⟨b, q, m, d, hbi, hbk, hseg⟩ := h.hit i c hi
  obtain ⟨va, vc, hvf⟩ := h.form
  obtain ⟨n, hn⟩ : ∃ n, n = at'.length := ⟨_, rfl⟩
  rw [← hn] at hvf hl
  subst hvf
  have hil : i < n := by rw [hn]; exact (List.getElem?_eq_some_iff.1 hi).1
  have hzc : (List.zipWith itV bs at')[i]? = some (.iface 124 (.pointer (some ⟨b, 0, none⟩))) := by
    rw [List.getElem?_zipWith, hbi, hi]; rfl
  obtain ⟨g, hva, hBg, hgl, hrc, hrf⟩ : ∃ g, va = some ⟨g, 0, none⟩ ∧ B ≤ g ∧ g < w.heap.size ∧ w.cell? ⟨g, i, none⟩ = some (.iface 124 (.pointer (some ⟨b, 0, none⟩))) ∧ w.frozen? ⟨g, i, none⟩ = false := by
    rcases h.hrow.2 with ⟨hv, h0⟩ | ⟨g, cap, cur, hv, hb, hh, _⟩
    · omega
    · injection hv with e1 e2 e3
      have hc := h.hrow.cells (g := g) (by rw [e1]; rfl) i _ hzc
      rw [Addr.add_lit] at hc
      exact ⟨g, e1, hb, (Array.getElem?_eq_some_iff.1 hh).1, by simpa using hc, Blk.frozen hh i⟩
  subst hva
  obtain ⟨W0, hW0⟩ : ∃ W0, W0 = ((w.alloc (.cells #[.int .i64 6, .int .i64 (i : Int), .int .i64 sj, .int .i64 sm, r0, r1, r2, r3, r4, r5, r6, r7, r8, r9, r10, r11, r12] 35)).alloc (.cells #[.bool false, .bool false, .int .i64 0, .int .i64 0, .bool false, .slice none 0 0, .int .u64 0, .string ⟨#[]⟩, .slice none 0 0, .slice none 0 0] 37)) := ⟨_, rfl⟩
  have hb0 : Below w.heap.size w W0 := by rw [hW0]; exact ((Below.refl _ w).alloc (Nat.le_refl _) _).alloc (by simp) _
  have HK3 : Hid (Blk W0 w.heap.size 35 #[.int .i64 6, .int .i64 (i : Int), .int .i64 sj, .int .i64 sm, r0, r1, r2, r3, r4, r5, r6, r7, r8, r9, r10, r11, r12]) := by rw [hW0]; exact (Blk.new w _ _).alloc _
  have HK4 : Hid (Blk W0 (w.heap.size + 1) 37 #[.bool false, .bool false, .int .i64 0, .int .i64 0, .bool false, .slice none 0 0, .int .u64 0, .string ⟨#[]⟩, .slice none 0 0, .slice none 0 0]) := by rw [hW0]; exact Blk.new_at _ _ _ (by simp)
  have HZ0 : Hid (W0.heap.size = w.heap.size + 2) := by rw [hW0]; simp [Hid]
  have HPS0 := Lib.hid (h.below hb0)
  have HBK := Lib.hid (hbk.below hb0 hbk.lt)
  have HSEG := Lib.hid (hseg.below hb0)
  have HB0 := Lib.hid hb0
  have HN := Lib.hid hn
  have HI := Lib.hid hi
  have HBI := Lib.hid hbi
  have s0 : W0.cell? ⟨w.heap.size, 0, none⟩ = some (.int .i64 6) := (HK3.out.cell 0).trans rfl
  have s1 : W0.cell? ⟨w.heap.size, 1, none⟩ = some (.int .i64 (i : Int)) := (HK3.out.cell 1).trans rfl
  have pc : W0.cell? ⟨P, 0, none⟩ = some (.slice (some ⟨g, 0, none⟩) n vc) := (HPS0.out.hP.cell 0).trans rfl
  have rc : W0.cell? ⟨g, i, none⟩ = some (.iface 124 (.pointer (some ⟨b, 0, none⟩))) := (hb0.cell (p := ⟨g, i, none⟩) hgl).trans hrc
  have rf : W0.frozen? ⟨g, i, none⟩ = false := (hb0.frozen (p := ⟨g, i, none⟩) hgl).trans hrf
  have hPl := h.hP.lt
  have hbl := hbk.lt
  have hgP : ¬ g = P := fun e => own_ne_blk h.hrow h.hP (by decide) g rfl e
  have hgb : ¬ g = b := fun e => own_ne_blk h.hrow hbk (by decide) g rfl e
  have hi0 : (0 : Int) ≤ (i : Int) := by omega
  have hi1 : (i : Int) < (n : Int) := by omega
  have d1 : decide ((i : Int) < 0) = false := by simp
  have d2 : decide ((n : Int) ≤ (i : Int)) = false := by simp; omega
  have d3 : decide (n ≤ i) = false := by simp; omega
  have n1 : ¬ g = w.heap.size := by omega
  have n2 : ¬ g = w.heap.size + 1 := by omega
  have n3 : ¬ P = w.heap.size + 1 := by omega
  have n4 : ¬ b = w.heap.size + 1 := by omega
  clear h hl hi hbi hn hbk hseg hzc hrc hrf hb0 hBg
  go_enter Tryz.func52, Tryz.ntmps52
  go_upto_region 1 with fail
  rw [← hW0]
  clear hW0
  go_quiet (fail)
  obtain ⟨W1, hW1⟩ : ∃ W1, W1 = W0.drewN nq := ⟨_, rfl⟩
  rw [← hW1]
  have hb1 : Below W0.heap.size W0 W1 := by rw [hW1]; exact below_dn (Below.refl _ _) _
  replace s0 : W1.cell? ⟨w.heap.size, 0, none⟩ = some (.int .i64 6) := by rw [hW1]; exact s0
  replace s1 : W1.cell? ⟨w.heap.size, 1, none⟩ = some (.int .i64 (i : Int)) := by rw [hW1]; exact s1
  replace pc : W1.cell? ⟨P, 0, none⟩ = some (.slice (some ⟨g, 0, none⟩) n vc) := by rw [hW1]; exact pc
  replace rc : W1.cell? ⟨g, i, none⟩ = some (.iface 124 (.pointer (some ⟨b, 0, none⟩))) := by rw [hW1]; exact rc
  replace rf : W1.frozen? ⟨g, i, none⟩ = false := by rw [hW1]; exact rf
  clear hW1 nq
  go_upto_region 3 with fail
  go_quiet (fail)
  obtain ⟨W2, hW2⟩ : ∃ W2, W2 = W1.drewN nq := ⟨_, rfl⟩
  rw [← hW2]
  have HB2 : Hid (Below W0.heap.size W0 W2) := by rw [hW2]; exact below_dn hb1 _
  replace s0 : W2.cell? ⟨w.heap.size, 0, none⟩ = some (.int .i64 6) := by rw [hW2]; exact s0
  replace s1 : W2.cell? ⟨w.heap.size, 1, none⟩ = some (.int .i64 (i : Int)) := by rw [hW2]; exact s1
  replace pc : W2.cell? ⟨P, 0, none⟩ = some (.slice (some ⟨g, 0, none⟩) n vc) := by rw [hW2]; exact pc
  replace rc : W2.cell? ⟨g, i, none⟩ = some (.iface 124 (.pointer (some ⟨b, 0, none⟩))) := by rw [hW2]; exact rc
  replace rf : W2.frozen? ⟨g, i, none⟩ = false := by rw [hW2]; exact rf
  clear hW2 nq hb1
  have HPS2 := Lib.hid (HPS0.out.below HB2.out)
  have HK32 := Lib.hid (HK3.out.below HB2.out HK3.out.lt)
  have HK42 := Lib.hid (HK4.out.below HB2.out HK4.out.lt)
  have HBK2 := Lib.hid (HBK.out.below HB2.out HBK.out.lt)
  have HSEG2 := Lib.hid (HSEG.out.below HB2.out)
  obtain ⟨X, hX⟩ : ∃ X, X = W2.heap.size := ⟨_, rfl⟩
  obtain ⟨W3, hW3⟩ : ∃ W3, W3 = W2.alloc (.cells #[.nilIface] 87) := ⟨_, rfl⟩
  have hb3 : Below W2.heap.size W2 W3 := by rw [hW3]; exact (Below.refl _ W2).alloc (Nat.le_refl _) _
  have HX3 : Hid (Blk W3 X 87 #[.nilIface]) := by rw [hW3, hX]; exact Blk.new _ _ _
  have HB3 := Lib.hid hb3
  have HPS3 := Lib.hid (HPS2.out.below hb3)
  have HBK3 := Lib.hid (HBK2.out.below hb3 HBK2.out.lt)
  have HSEG3 := Lib.hid (HSEG2.out.below hb3)
  have HXE := Lib.hid hX
  have hk43 := HK42.out.below hb3 HK42.out.lt
  have HK43 := Lib.hid hk43
  have hsz : W0.heap.size ≤ W2.heap.size := HB2.out.size
  have hsz0 := HZ0.out
  have hXb : ¬ b = X := by rw [hX]; have := HBK2.out.lt; omega
  have hXA : ¬ w.heap.size + 1 = X := by rw [hX]; omega
  have HNA : Hid (¬ w.heap.size + 1 = X ∧ ¬ w.heap.size + 1 = b) := ⟨hXA, fun e => n4 e.symm⟩
  have HXW : Hid (w.heap.size + 2 ≤ X) := by unfold Hid; rw [hX]; omega
  go_upto_region 9 with fail
  rw [← hW3, ← hX]
  clear hW3 hX
  by_cases hc : ts.length ≤ c
  · have hm0 : m = 0 := by have h1 := HSEG.out.1.1; rw [List.length_drop] at h1; omega
    subst hm0
    have HNN := Lib.hid (tup_next_no b X q d W3 HBK3.out)
    have HC := Lib.hid hc
    obtain ⟨p0, p1, p2, p3, p4, p5, p6, p7, p8, p9, q0, q1, q2, q3, q4, q5, q6, q7, q8, q9⟩ := blk_ten hk43
    clear hk43 hc hb3 hsz hsz0
    go_wp2_with (go_at_call 153; refine HNN.out.mono ?_; rintro e w4 ⟨rfl, rfl⟩)
    refine bodyPost_ret (v := .agg #[.bool true, .bool false, .int .i64 0, .int .i64 0, .bool false, .slice none 0 0, .int .u64 0, .string ⟨#[]⟩, .slice none 0 0, .slice none 0 0]) (by simp [results, Tryz.results52, go_sem, p0, p1, p2, p3, p4, p5, p6, p7, p8, p9]) rfl ⟨at', ⟨false, 0, .one .none⟩, .inl ⟨HC.out, rfl, rfl⟩, false, 0, 0, false, none, 0, 0, 0, ⟨#[]⟩, none, 0, 0, rfl, rans_zero _ _ _ _, ?_, ?_⟩
    · exact HPS3.out.typ (typ_one HK43.out) (ten_keep (g := w.heap.size + 1) (d0 := .bool true) (d1 := .bool false) (d2 := .int .i64 0) (d3 := .int .i64 0) (d4 := .bool false) (d5 := .slice none 0 0) (d6 := .int .u64 0) (d7 := .string ⟨#[]⟩) (d8 := .slice none 0 0) (d9 := .slice none 0 0) (Only.refl (· = w.heap.size + 1) _) (.inl rfl)) (by decide) (by decide) (by decide) (by decide) (by decide) (by decide)
    · exact ten_keep (Only.of_below (S := (fun q => (Value.slice (some ⟨g, 0, none⟩) n vc).ownBlock = some q ∨ bs[i]? = some q)) (HB0.out.trans ((HB2.out.trans (HB3.out.mono HB2.out.size)).mono HB0.out.size))) (.inr (Nat.le_succ _))
  · have hcl : c < ts.length := by omega
    obtain ⟨m2, hm2⟩ : ∃ m2, m = m2 + 1 := ⟨m - 1, by have h1 := HSEG.out.1.1; rw [List.length_drop] at h1; omega⟩
    subst hm2
    have hm8 : m2 ≤ 1000 := by have h1 := HSEG.out.1.1; rw [List.length_drop] at h1; omega
    have HNN := Lib.hid (tup_next_yes b X m2 d q (ts.drop c) .nilIface W3 HBK3.out HSEG3.out.1 hm8 HX3.out hXb)
    have hts : ts[c]? = some ts[c] := List.getElem?_eq_getElem hcl
    have htv : TVal W3 (ts[c]'hcl).1 (ts[c]'hcl).2 := HSEG3.out.1.2.2.2.2.2 _ (by rw [List.drop_eq_getElem_cons hcl]; exact List.mem_cons_self)
    obtain ⟨ut, ux, hui⟩ := htv.iface
    have HUI := Lib.hid hui
    have HTV := Lib.hid htv
    have HNX1 := Lib.hid (HNX.out _ (List.getElem_mem hcl))
    have HNN2 : Hid (Calls Tryz.prog 153 #[.pointer (some ⟨b, 0, none⟩), .pointer (some ⟨X, 0, none⟩)] W3 fun e w' => ∃ q' d', e = .returned (.bool true) ∧ Blk w' b 126 #[.slice q' m2 d'] ∧ Blk w' X 87 #[.iface ut ux] ∧ SegV w' q' m2 d' (ts.drop (c + 1)) ∧ Only (fun x => x = b ∨ x = X) W3 w') := by
      refine HNN.out.mono ?_
      rintro e w4 ⟨q', d', u, rfl, k1, k2, k3, k4, k5, k6⟩
      rw [List.getElem?_drop, Nat.add_zero, hts] at k3
      injection k3 with k3
      subst k3
      rw [hui] at k2
      have hT : Typ (fun x => x = b ∨ x = X) W3 [126, 87] := fun x hx _ => by
        rcases hx with rfl | rfl
        · exact ⟨_, _, HBK3.out, by simp⟩
        · exact ⟨_, _, HX3.out, by simp⟩
      rw [List.drop_drop] at k4
      have hsv : SegV W3 q' m2 d' (ts.drop (c + 1)) := ⟨k4, fun p' hp' => by
        obtain ⟨p, hp, hpb⟩ := k5 p' hp'
        rw [hpb]
        exact HSEG3.out.2 p hp⟩
      refine ⟨q', d', rfl, k1, k2, hsv.apart hT k6 (fun p' hp' hx => ?_) (by decide) (by decide), k6⟩
      obtain ⟨p, hp, hpb⟩ := k5 p' hp'
      obtain ⟨cs, hk⟩ := HSEG2.out.2 p hp
      have hl := hk.lt
      have hk3 := hk.below HB3.out hk.lt
      rw [hpb] at hx
      rcases hx with hx | hx
      · rw [hx] at hk3
        have := hk3.symm.trans HBK3.out
        injection this with h
        injection h with _ h
        exact absurd h (by decide)
      · rw [hx, HXE.out] at hl
        omega
    have HCL := Lib.hid hcl
    clear hk43 hc hb3 hsz hsz0 hts htv hui hm8 HNN
    go_upto_region 11 with (go_at_call 153; refine HNN2.out.mono ?_; rintro e w4 ⟨q', d', rfl, k1, k2, k3, k4⟩; have HK1 := Lib.hid k1; have HSV := Lib.hid k3; have HO4 := Lib.hid k4; have x0 := (k2.cell 0).trans rfl; have HX4 := Lib.hid k2; clear k1 k2 k3 k4)
    have hT4 : Typ (fun x => x = b ∨ x = X) W3 [126, 87] := fun x hx _ => by
      rcases hx with rfl | rfl
      · exact ⟨_, _, HBK3.out, by simp⟩
      · exact ⟨_, _, HX3.out, by simp⟩
    have htv4 := HTV.out.typ hT4 HO4.out (by decide) (by decide)
    rw [HUI.out] at htv4
    obtain ⟨sx, hsx⟩ : ∃ sx, sx = (ts[c]'HCL.out).2 := ⟨_, rfl⟩
    rw [← hsx] at htv4
    have HTL := Lib.hid (tell_scalar _ _ w4 htv4 (by rw [hsx]; exact HNX1.out))
    have HSX := Lib.hid hsx
    have hk44 := HK43.out.only HO4.out (fun e => by rcases e with e | e; exact HNA.out.2 e; exact HNA.out.1 e)
    have HK44 := Lib.hid hk44
    clear hT4 htv4 hsx hk44
    go_wp2_with fail
    refine HTL.out.mono ?_
    rintro e w5 ⟨v2, rfl, hv2, hb5⟩
    obtain ⟨n1', a1, m1, c1, b1, x1, rfl⟩ := hv2.form
    obtain ⟨kd, hkd⟩ : ∃ kd, kd = kx sx := ⟨_, rfl⟩
    rw [← hkd] at hv2 ⊢
    have HV2 := Lib.hid hv2
    have HB5 := Lib.hid hb5
    have hk45 := HK44.out.below hb5 HK44.out.lt
    have HK45 := Lib.hid hk45
    obtain ⟨p0, p1, p2, p3, p4, p5, p6, p7, p8, p9, q0, q1, q2, q3, q4, q5, q6, q7, q8, q9⟩ := blk_ten hk45
    clear hv2 hb5 hk45 hkd
    unfold pv
    go_wp2
    have hO10 := ten_keep (g := w.heap.size + 1) (d0 := .bool true) (d1 := .bool true) (d2 := .int .i64 0) (d3 := .int .i64 kd) (d4 := .bool n1') (d5 := .slice a1 m1 c1) (d6 := .int .u64 b1) (d7 := .string x1) (d8 := .slice none 0 0) (d9 := .slice none 0 0) (Only.refl (· = w.heap.size + 1) w5) (.inl rfl)
    have hO24 : Only (· = b) W2 w4 := (Only.of_below (S := (· = b)) HB3.out).comp HO4.out (fun x hx => by
      rcases hx with hx | hx
      · exact .inl hx
      · exact .inr (by rw [hx, HXE.out]; exact Nat.le_refl _))
    have hr5 : RVal (_ : World) (pv kd n1' a1 m1 c1 b1 x1 none 0 0) sx := HV2.out.apart (fun g hS hg => by
      obtain ⟨t, cs, hb, hm⟩ := (typ_one HK45.out) g hS hg
      exact ⟨t, cs, hb, fun e => absurd (e ▸ hm) (by decide)⟩) hO10
    rw [HSX.out] at hr5
    refine bodyPost_ret (v := .agg #[.bool true, .bool true, .int .i64 0, .int .i64 kd, .bool n1', .slice a1 m1 c1, .int .u64 b1, .string x1, .slice none 0 0, .slice none 0 0]) (by simp [results, Tryz.results52, go_sem, p0, p1, p2, p3, p4, p5, p6, p7, p8, p9]) rfl ⟨at'.set i (some (c + 1)), ⟨true, 0, .one (ts[c]'HCL.out).2⟩, .inr ⟨HCL.out, rfl, rfl⟩, true, 0, kd, n1', a1, m1, c1, b1, x1, none, 0, 0, rfl, rans_one hr5, ?_, ?_⟩
    · exact ((PS.on HPS2.out HBI.out HI.out HBK2.out hO24 HK1.out HSV.out).below HB5.out).typ (typ_one HK45.out) hO10 (by decide) (by decide) (by decide) (by decide) (by decide) (by decide)
    · exact ten_keep ((((Only.of_below (S := (fun q => (Value.slice (some ⟨g, 0, none⟩) n vc).ownBlock = some q ∨ bs[i]? = some q)) (HB0.out.trans (HB2.out.mono HB0.out.size))).trans (hO24.mono fun x _ hx => .inr (by rw [show x = b from hx]; exact HBI.out))).below HB5.out)) (.inr (Nat.le_succ _))
end Go.Proofs.YteibkaonofkcbaaGreat
