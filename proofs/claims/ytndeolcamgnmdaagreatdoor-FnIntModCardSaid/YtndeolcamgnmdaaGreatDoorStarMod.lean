/- What is left of an int by an int. (Written by tools/starmod_gen.py.) -/
import Derived.Test.YtndeolcamgnmdaaGreatDoorModP
import Derived.Deep.RegionHeld3
import Derived.Deep.DrawnRows
set_option linter.unusedVariables false
set_option linter.unusedSimpArgs false
set_option linter.unnecessarySimpa false
namespace Go.Proofs.YtndeolcamgnmdaaGreatDoor
open Go.RowKit
attribute [local go_sem ↓] Go.wp_at_zero Go.wp_at_succ
theorem six_cells {w W : World} {t : TypeId} {a b c d e f : Value} (h : Below (w.heap.size + 1 + 1 + 1) (((w.alloc (.cells #[a, b] t)).alloc (.cells #[c, d] t)).alloc (.cells #[e, f] t)) W) :
    (W.cell? ⟨w.heap.size, 0, none⟩ = some a ∧ W.cell? ⟨w.heap.size, 1, none⟩ = some b ∧ W.cell? ⟨w.heap.size + 1, 0, none⟩ = some c ∧ W.cell? ⟨w.heap.size + 1, 1, none⟩ = some d) ∧ Blk W (w.heap.size + 1 + 1) t #[e, f] ∧ w.heap.size + 1 + 1 + 1 ≤ W.heap.size ∧ Below w.heap.size w W := by
  obtain ⟨h1, h2, h3, h4, h5⟩ := three_alloc h
  obtain ⟨a0, a1, _, _⟩ := blk2 h1
  obtain ⟨c0, c1, _, _⟩ := blk2 h2
  exact ⟨⟨a0, a1, c0, c1⟩, h3, h4, h5⟩
theorem mod_fin {w W : World} {x : Int} {p : Option Addr} {n : Int} (hs : SI W (w.heap.size + 1 + 1 + 1) (.agg #[.int .i64 x, .pointer p]) n) (hb : Below w.heap.size w W) :
    SIPost n w (.returned (.agg #[.int .i64 x, .pointer p])) ((W.setCell ⟨w.heap.size + 1 + 1, 0, none⟩ (.int .i64 x)).setCell ⟨w.heap.size + 1 + 1, 1, none⟩ (.pointer p)) :=
  ⟨_, rfl, (hs.only (two_set W (w.heap.size + 1 + 1) (.int .i64 x) (.pointer p)) (fun k hk e => by omega)).base (by omega), (hb.setCell (p := ⟨w.heap.size + 1 + 1, 0, none⟩) (by simp; omega) _).setCell (p := ⟨w.heap.size + 1 + 1, 1, none⟩) (by simp; omega) _⟩
set_option maxRecDepth 20000 in
set_option maxHeartbeats 4000000 in
theorem star_mod_small (x y : Int) (w : World) (hx : smallB x = true) (hy : smallB y = true) (hy0 : y ≠ 0) :
    Calls Tryz.prog 19 #[.agg #[.int .i64 x, .pointer none], .agg #[.int .i64 y, .pointer none]] w (SIPost (imod x y) w) := by
  have C0 := Lib.hid (Below.refl (w.heap.size + 1 + 1 + 1) (((w.alloc (.cells #[.int .i64 x, .pointer none] 48)).alloc (.cells #[.int .i64 y, .pointer none] 48)).alloc (.cells #[.int .i64 0, .pointer none] 48)))
  obtain ⟨hS1, hS2, hS3⟩ := small_mod x y hy0
  have hSM := imod_small x y hy0 hy
  have hx1 := of_decide_eq_true hx
  have hy1 := of_decide_eq_true hy
  have hrr := tmod_range x y hx1.1 hx1.2
  obtain ⟨r, hr⟩ : ∃ r, x.tmod y = r := ⟨_, rfl⟩
  rw [hr] at hS1 hS2 hS3 hrr
  have hwr : IntKind.i64.wrap r = r := wrap_i64_mid _ (by omega) (by omega)
  have hyb : ¬ y = 0 := hy0
  obtain ⟨b1, hb1⟩ : ∃ b, decide (x < 0) = b := ⟨_, rfl⟩
  obtain ⟨b2, hb2⟩ : ∃ b, decide (y < 0) = b := ⟨_, rfl⟩
  rw [hb1, hb2] at hS1 hS2 hS3
  obtain ⟨R, hR⟩ : ∃ R, R = imod x y := ⟨_, rfl⟩
  rw [← hR] at hS1 hS2 hS3 hSM ⊢
  have HSM := Lib.hid hSM
  clear hSM hx hy hR
  cases b1
  case false =>
    cases b2
    case false =>
      have HV := Lib.hid (hS1 rfl)
      clear hS1 hS2 hS3 hx1 hy1 hrr
      go_enter Tryz.func19, Tryz.ntmps19
      go_wp2_with fail
      refine (int_get x none _).mono ?_
      rintro e w1 ⟨rfl, hbw1⟩
      have C1 := Lib.hid (C0.out.trans (hbw1.mono (by simp)))
      clear hbw1
      obtain ⟨⟨c0, c1, c2, c3⟩, _⟩ := six_cells C1.out
      go_wp2_with fail
      refine (int_get y none _).mono ?_
      rintro e w2 ⟨rfl, hbw2⟩
      have C2 := Lib.hid (C1.out.trans (hbw2.mono (six_cells C1.out).2.2.1))
      clear hbw2 c0 c1 c2 c3
      go_wp2_with fail
      refine (make_small r _).mono ?_
      rintro e w3 ⟨rfl, hb3⟩
      have C3 := Lib.hid (C2.out.trans (hb3.mono (six_cells C2.out).2.2.1))
      obtain ⟨e0, e1, f0, f1⟩ := blk2 (six_cells C3.out).2.1
      clear hb3
      go_wp2
      refine bodyPost_ret (v := .agg #[.int .i64 r, .pointer none]) (by simp [results, Tryz.results19, go_sem, e0, e1]) rfl (mod_fin (.inl ⟨HSM.out, by rw [HV.out]⟩) (six_cells C3.out).2.2.2)
    case true =>
      by_cases hr0 : r = 0
      · have hrz : (r != 0) = false := by rw [hr0]; rfl
        have HV := Lib.hid (hS2 (by simp) hr0)
        clear hS1 hS2 hS3 hx1 hy1 hrr hr0
        go_enter Tryz.func19, Tryz.ntmps19
        go_wp2_with fail
        refine (int_get x none _).mono ?_
        rintro e w1 ⟨rfl, hbw1⟩
        have C1 := Lib.hid (C0.out.trans (hbw1.mono (by simp)))
        clear hbw1
        obtain ⟨⟨c0, c1, c2, c3⟩, _⟩ := six_cells C1.out
        go_wp2_with fail
        refine (int_get y none _).mono ?_
        rintro e w2 ⟨rfl, hbw2⟩
        have C2 := Lib.hid (C1.out.trans (hbw2.mono (six_cells C1.out).2.2.1))
        clear hbw2 c0 c1 c2 c3
        go_wp2_with fail
        refine (make_small r _).mono ?_
        rintro e w3 ⟨rfl, hb3⟩
        have C3 := Lib.hid (C2.out.trans (hb3.mono (six_cells C2.out).2.2.1))
        obtain ⟨e0, e1, f0, f1⟩ := blk2 (six_cells C3.out).2.1
        clear hb3
        go_wp2
        refine bodyPost_ret (v := .agg #[.int .i64 r, .pointer none]) (by simp [results, Tryz.results19, go_sem, e0, e1]) rfl (mod_fin (.inl ⟨HSM.out, by rw [HV.out]⟩) (six_cells C3.out).2.2.2)
      · have hrz : (r != 0) = true := by rw [bne_iff_ne]; exact hr0
        have HV0 := hS3 (by simp) hr0
        obtain ⟨q, hq⟩ : ∃ q, r + y = q := ⟨_, rfl⟩
        rw [hq] at HV0
        have HV := Lib.hid HV0
        have hwq : IntKind.i64.wrap q = q := wrap_i64_mid _ (by omega) (by omega)
        have hwq2 : wrap64 q = q := by unfold wrap64; omega
        clear hS1 hS2 hS3 hx1 hy1 hrr hr0 HV0
        go_enter Tryz.func19, Tryz.ntmps19
        go_wp2_with fail
        refine (int_get x none _).mono ?_
        rintro e w1 ⟨rfl, hbw1⟩
        have C1 := Lib.hid (C0.out.trans (hbw1.mono (by simp)))
        clear hbw1
        obtain ⟨⟨c0, c1, c2, c3⟩, _⟩ := six_cells C1.out
        go_wp2_with fail
        refine (int_get y none _).mono ?_
        rintro e w2 ⟨rfl, hbw2⟩
        have C2 := Lib.hid (C1.out.trans (hbw2.mono (six_cells C1.out).2.2.1))
        clear hbw2 c0 c1 c2 c3
        go_wp2_with fail
        refine (make_small q _).mono ?_
        rintro e w3 ⟨rfl, hb3⟩
        have C3 := Lib.hid (C2.out.trans (hb3.mono (six_cells C2.out).2.2.1))
        obtain ⟨e0, e1, f0, f1⟩ := blk2 (six_cells C3.out).2.1
        clear hb3
        go_wp2
        refine bodyPost_ret (v := .agg #[.int .i64 q, .pointer none]) (by simp [results, Tryz.results19, go_sem, e0, e1]) rfl (mod_fin (.inl ⟨HSM.out, by rw [HV.out]⟩) (six_cells C3.out).2.2.2)
  case true =>
    cases b2
    case false =>
      by_cases hr0 : r = 0
      · have hrz : (r != 0) = false := by rw [hr0]; rfl
        have HV := Lib.hid (hS2 (by simp) hr0)
        clear hS1 hS2 hS3 hx1 hy1 hrr hr0
        go_enter Tryz.func19, Tryz.ntmps19
        go_wp2_with fail
        refine (int_get x none _).mono ?_
        rintro e w1 ⟨rfl, hbw1⟩
        have C1 := Lib.hid (C0.out.trans (hbw1.mono (by simp)))
        clear hbw1
        obtain ⟨⟨c0, c1, c2, c3⟩, _⟩ := six_cells C1.out
        go_wp2_with fail
        refine (int_get y none _).mono ?_
        rintro e w2 ⟨rfl, hbw2⟩
        have C2 := Lib.hid (C1.out.trans (hbw2.mono (six_cells C1.out).2.2.1))
        clear hbw2 c0 c1 c2 c3
        go_wp2_with fail
        refine (make_small r _).mono ?_
        rintro e w3 ⟨rfl, hb3⟩
        have C3 := Lib.hid (C2.out.trans (hb3.mono (six_cells C2.out).2.2.1))
        obtain ⟨e0, e1, f0, f1⟩ := blk2 (six_cells C3.out).2.1
        clear hb3
        go_wp2
        refine bodyPost_ret (v := .agg #[.int .i64 r, .pointer none]) (by simp [results, Tryz.results19, go_sem, e0, e1]) rfl (mod_fin (.inl ⟨HSM.out, by rw [HV.out]⟩) (six_cells C3.out).2.2.2)
      · have hrz : (r != 0) = true := by rw [bne_iff_ne]; exact hr0
        have HV0 := hS3 (by simp) hr0
        obtain ⟨q, hq⟩ : ∃ q, r + y = q := ⟨_, rfl⟩
        rw [hq] at HV0
        have HV := Lib.hid HV0
        have hwq : IntKind.i64.wrap q = q := wrap_i64_mid _ (by omega) (by omega)
        have hwq2 : wrap64 q = q := by unfold wrap64; omega
        clear hS1 hS2 hS3 hx1 hy1 hrr hr0 HV0
        go_enter Tryz.func19, Tryz.ntmps19
        go_wp2_with fail
        refine (int_get x none _).mono ?_
        rintro e w1 ⟨rfl, hbw1⟩
        have C1 := Lib.hid (C0.out.trans (hbw1.mono (by simp)))
        clear hbw1
        obtain ⟨⟨c0, c1, c2, c3⟩, _⟩ := six_cells C1.out
        go_wp2_with fail
        refine (int_get y none _).mono ?_
        rintro e w2 ⟨rfl, hbw2⟩
        have C2 := Lib.hid (C1.out.trans (hbw2.mono (six_cells C1.out).2.2.1))
        clear hbw2 c0 c1 c2 c3
        go_wp2_with fail
        refine (make_small q _).mono ?_
        rintro e w3 ⟨rfl, hb3⟩
        have C3 := Lib.hid (C2.out.trans (hb3.mono (six_cells C2.out).2.2.1))
        obtain ⟨e0, e1, f0, f1⟩ := blk2 (six_cells C3.out).2.1
        clear hb3
        go_wp2
        refine bodyPost_ret (v := .agg #[.int .i64 q, .pointer none]) (by simp [results, Tryz.results19, go_sem, e0, e1]) rfl (mod_fin (.inl ⟨HSM.out, by rw [HV.out]⟩) (six_cells C3.out).2.2.2)
    case true =>
      have HV := Lib.hid (hS1 rfl)
      clear hS1 hS2 hS3 hx1 hy1 hrr
      go_enter Tryz.func19, Tryz.ntmps19
      go_wp2_with fail
      refine (int_get x none _).mono ?_
      rintro e w1 ⟨rfl, hbw1⟩
      have C1 := Lib.hid (C0.out.trans (hbw1.mono (by simp)))
      clear hbw1
      obtain ⟨⟨c0, c1, c2, c3⟩, _⟩ := six_cells C1.out
      go_wp2_with fail
      refine (int_get y none _).mono ?_
      rintro e w2 ⟨rfl, hbw2⟩
      have C2 := Lib.hid (C1.out.trans (hbw2.mono (six_cells C1.out).2.2.1))
      clear hbw2 c0 c1 c2 c3
      go_wp2_with fail
      refine (make_small r _).mono ?_
      rintro e w3 ⟨rfl, hb3⟩
      have C3 := Lib.hid (C2.out.trans (hb3.mono (six_cells C2.out).2.2.1))
      obtain ⟨e0, e1, f0, f1⟩ := blk2 (six_cells C3.out).2.1
      clear hb3
      go_wp2
      refine bodyPost_ret (v := .agg #[.int .i64 r, .pointer none]) (by simp [results, Tryz.results19, go_sem, e0, e1]) rfl (mod_fin (.inl ⟨HSM.out, by rw [HV.out]⟩) (six_cells C3.out).2.2.2)
theorem topNZ_K {ws : List Nat} {K : Nat} (ht : TopNZ ws) (h : valW ws < W64 ^ K) : ws.length ≤ K := by
  by_cases h0 : ws = []
  · rw [h0]; simp
  · have h1 := Nat.lt_of_le_of_lt (topNZ_ge ht h0) h
    have h2 := (Nat.pow_lt_pow_iff_right (a := W64) (by unfold W64; omega)).1 h1
    omega
theorem valI_sg (neg : Bool) (ws : List Nat) : valI neg ws = sgI neg (valW ws) := by cases neg <;> rfl
theorem sgI_natAbs (b : Bool) (A : Nat) : (sgI b A).natAbs = A := by cases b <;> simp [sgI]
theorem valI_rem (xn : Bool) (rs : List Nat) : valI (xn && !rs.isEmpty) rs = sgI xn (valW rs) := by
  cases rs with
  | nil => cases xn <;> rfl
  | cons a r => simp [valI_sg]
def two0 (w : World) : World := (w.alloc (.cells #[.bool false, .slice none 0 0] 60)).alloc (.cells #[.bool false, .slice none 0 0] 60)
/-- The division, with two boxes made for it. -/
theorem qr_made (g1 g2 : Nat) (n1 n2 : Bool) (xs ys : List Nat) (n m : Int) (w4 : World) (h1 : BigI w4 0 g1 n1 xs) (h2 : BigI w4 0 g2 n2 ys) (e1 : valI n1 xs = n) (e2 : valI n2 ys = m) (hn : n.natAbs < W64 ^ 13) (hm : m.natAbs < W64 ^ 13) (hm0 : m ≠ 0) (hT : Thr w4) :
    Calls Tryz.prog 33 #[.pointer (some ⟨w4.heap.size, 0, none⟩), .pointer (some ⟨g1, 0, none⟩), .pointer (some ⟨g2, 0, none⟩), .pointer (some ⟨w4.heap.size + 1, 0, none⟩)] (two0 w4)
      (QRIPost w4.heap.size (w4.heap.size + 1) n1 (valW xs % valW ys) (two0 w4)) := by
  have hb : Below w4.heap.size w4 (two0 w4) := ((Below.refl _ w4).alloc (Nat.le_refl _) _).alloc (by simp) _
  have l1 := h1.blk
  have l2 := h2.blk
  have a1 : valW xs < W64 ^ 13 := by rw [← e1, valI_sg, sgI_natAbs] at hn; exact hn
  have a2 : valW ys < W64 ^ 13 := by rw [← e2, valI_sg, sgI_natAbs] at hm; exact hm
  have t1 : TopNZ xs := by obtain ⟨_, _, _, h, _⟩ := h1; exact h
  have t2 : TopNZ ys := by obtain ⟨_, _, _, h, _⟩ := h2; exact h
  have b1 := topNZ_K t1 a1
  have b2 := topNZ_K t2 a2
  have hy0 : 0 < valW ys := by
    rcases Nat.eq_zero_or_pos (valW ys) with h | h
    · exfalso; rw [valI_sg, h] at e2; exact hm0 (by rw [← e2]; cases n2 <;> rfl)
    · exact h
  exact quo_rem w4.heap.size (w4.heap.size + 1) g1 g2 0 0 n1 n2 xs ys (two0 w4) (Blk.alloc (Blk.new w4 _ _) _) (Blk.new_at _ _ _ (by simp)) (h1.below hb) (h2.below hb) (by omega) (by omega) (by omega) (by omega) (by omega) (by omega) (by omega) hy0 (hT.below hb hT.lt)
theorem two0_below {w4 w6 : World} (k : Only (fun k => k = w4.heap.size ∨ k = w4.heap.size + 1) (two0 w4) w6) : Below w4.heap.size w4 w6 ∧ w4.heap.size + 2 ≤ w6.heap.size := by
  have hb : Below w4.heap.size w4 (two0 w4) := ((Below.refl _ w4).alloc (Nat.le_refl _) _).alloc (by simp) _
  have hs : (two0 w4).heap.size = w4.heap.size + 2 := by simp [two0]
  exact ⟨hb.trans (k.to_below (B := w4.heap.size) (by omega) (fun j _ e => by omega)), by have := k.size; omega⟩
/-- The sum that puts the remainder right. -/
theorem add_made {w4 w6 : World} {g2 : Nat} {n2 rn : Bool} {rs ys : List Nat} (h2 : BigI w4 0 g2 n2 ys) (hr : BigI w6 (two0 w4).heap.size (w4.heap.size + 1) rn rs) (k : Only (fun k => k = w4.heap.size ∨ k = w4.heap.size + 1) (two0 w4) w6) (hs : (rn == n2) = false) (h0 : rs ≠ []) (hlt : valW rs < valW ys) :
    Calls Tryz.prog 34 #[.pointer (some ⟨w4.heap.size + 1, 0, none⟩), .pointer (some ⟨w4.heap.size + 1, 0, none⟩), .pointer (some ⟨g2, 0, none⟩)] w6 (AddOPost (two0 w4).heap.size (w4.heap.size + 1) (!rn) (valW ys - valW rs) w6) := by
  obtain ⟨hb, hsz⟩ := two0_below k
  have hs2 : (two0 w4).heap.size = w4.heap.size + 2 := by simp [two0]
  have l2 := h2.blk
  obtain ⟨vr, hkr, howr, htr, _, hlr⟩ := hr
  obtain ⟨vy, hky, howy, hty, _, hly⟩ := h2
  rcases howr.form with ⟨_, h⟩ | ⟨g, c, rfl, hg, _, _, _⟩
  · exact absurd h h0
  rcases howy.form with ⟨_, h⟩ | ⟨gy, cy, rfl, _, hgy, _, _⟩
  · rw [h] at hlt; simp [valW] at hlt
  have hlen : 1 ≤ rs.length := by cases rs with | nil => exact absurd rfl h0 | cons a r => simp
  exact int_add_over _ (w4.heap.size + 1) g2 g rs.length c gy ys.length cy 0 rn n2 rs ys w6 hkr howr htr (hky.below hb l2) (howy.below hb) hty (by omega) (by omega) (by omega) (by omega) (by rw [hs2]; exact hsz) hs hlen hlr hly hlt
set_option maxRecDepth 20000 in
set_option maxHeartbeats 4000000 in
theorem star_modA (B1 B2 : Nat) (x1 x2 : Int) (q1 : Addr) (q2 : Addr) (n m : Int) (w : World) (hv1 : SI w B1 (.agg #[.int .i64 x1, .pointer (some q1)]) n) (hv2 : SI w B2 (.agg #[.int .i64 x2, .pointer (some q2)]) m) (hn : n.natAbs < W64 ^ 13) (hm : m.natAbs < W64 ^ 13) (hm0 : m ≠ 0) (hT : Thr w) :
    Calls Tryz.prog 19 #[.agg #[.int .i64 x1, .pointer (some q1)], .agg #[.int .i64 x2, .pointer (some q2)]] w (SIPost (imod n m) w) := by
  have C0 := Lib.hid (Below.refl (w.heap.size + 1 + 1 + 1) (((w.alloc (.cells #[.int .i64 x1, .pointer (some q1)] 48)).alloc (.cells #[.int .i64 x2, .pointer (some q2)] 48)).alloc (.cells #[.int .i64 0, .pointer none] 48)))
  have HV1 := Lib.hid hv1
  have HV2 := Lib.hid hv2
  have HNM := Lib.hid (And.intro hn (And.intro hm hm0))
  have HT := Lib.hid hT
  have tok1 : True := trivial
  obtain ⟨R, hR⟩ : ∃ R, R = imod n m := ⟨_, rfl⟩
  rw [← hR]
  have HR := Lib.hid hR
  clear hv1 hv2 hn hm hm0 hT hR
  go_enter Tryz.func19, Tryz.ntmps19
  go_wp2_with fail
  refine (int_get x1 (some q1) _).mono ?_
  rintro e w1 ⟨rfl, hb1⟩
  have C1 := Lib.hid (C0.out.trans (hb1.mono (by simp)))
  clear hb1
  obtain ⟨⟨c0, c1, c2, c3⟩, _⟩ := six_cells C1.out
  go_wp2_with fail
  refine (int_get x2 (some q2) _).mono ?_
  rintro e w2 ⟨rfl, hb2⟩
  have C2 := Lib.hid (C1.out.trans (hb2.mono (six_cells C1.out).2.2.1))
  clear hb2 c0 c1 c2 c3
  obtain ⟨⟨d0, d1, d2, d3⟩, _⟩ := six_cells C2.out
  go_wp2_with fail
  go_region_held3 (fun w' => w'.cell? ⟨w.heap.size, 0, none⟩ = some (.int .i64 x1) ∧ w'.cell? ⟨w.heap.size, 1, none⟩ = some (.pointer (some q1)) ∧ w'.cell? ⟨w.heap.size + 1, 0, none⟩ = some (.int .i64 x2) ∧ w'.cell? ⟨w.heap.size + 1, 1, none⟩ = some (.pointer (some q2)))
    (first | exact (six_cells C4.out).1 | exact (six_cells C3.out).1 | exact ⟨d0, d1, d2, d3⟩ | go_keep)
    (first
    | (go_at_call 32; have _t := tok1; refine (star_bigint B1 (.agg #[.int .i64 x1, .pointer (some q1)]) n _ (HV1.out.below (six_cells (C2.out.drew)).2.2.2)).mono ?_; rintro e w3 ⟨g1, n1, xs, rfl, hg1, hbi1, hval1, hb3⟩; have C3 := Lib.hid (C2.out.drew.trans (hb3.mono (six_cells C2.out.drew).2.2.1)); have HB1 := Lib.hid hbi1; have HVL1 := Lib.hid hval1; clear hb3 hbi1 hg1 hval1 _t tok1)
    | (go_at_call 32; refine (star_bigint B2 (.agg #[.int .i64 x2, .pointer (some q2)]) m _ (HV2.out.below (six_cells C3.out).2.2.2)).mono ?_; rintro e w4 ⟨g2, n2, ys, rfl, hg2, hbi2, hval2, hb4⟩; have C4 := Lib.hid (C3.out.trans (hb4.mono (six_cells C3.out).2.2.1)); have HB2 := Lib.hid hbi2; have HB1b := Lib.hid (HB1.out.below hb4); have HVL2 := Lib.hid hval2; clear hb4 hbi2 hg2 hval2))
  all_goals
    have HQR := Lib.hid (qr_made g1 g2 n1 n2 xs ys n m w4 HB1b.out HB2.out HVL1.out HVL2.out HNM.out.1 HNM.out.2.1 HNM.out.2.2 (HT.out.below (six_cells C4.out).2.2.2 HT.out.lt))
    have hw4 : w.heap.size + 1 + 1 + 1 ≤ w4.heap.size := (six_cells C4.out).2.2.1
    clear d0 d1 d2 d3
    go_wp2_with fail
    refine HQR.out.mono ?_
    rintro e w6 ⟨rn, rs, rfl, hbr, hvr, hrn, hO⟩
    have hyp : 0 < valW ys := by
      rcases Nat.eq_zero_or_pos (valW ys) with h | h
      · exfalso; have e2 := HVL2.out; rw [valI_sg, h] at e2; exact HNM.out.2.2 (by rw [← e2]; cases n2 <;> rfl)
      · exact h
    have C6 := Lib.hid (two0_below hO)
    have HFL : Hid (R = flr n1 n2 (valW xs) (valW ys)) := by
      unfold Hid
      rw [HR.out, ← flr_imod n1 n2 _ _ hyp, ← valI_sg, ← valI_sg, HVL1.out, HVL2.out]
    have hs1 := signW_neg n1 xs (by obtain ⟨_, _, _, _, h, _⟩ := HB1b.out; exact h)
    have hs2 := signW_neg n2 ys (by obtain ⟨_, _, _, _, h, _⟩ := HB2.out; exact h)
    have HSG1 := Lib.hid (big_sign 0 g1 n1 xs w6 (HB1b.out.below C6.out.1))
    have HSG2 := Lib.hid (big_sign 0 g2 n2 ys w6 (HB2.out.below C6.out.1))
    have HSG3 := Lib.hid (big_sign _ _ rn rs w6 hbr)
    unfold SignWPost at HSG1 HSG2 HSG3
    obtain ⟨s1, hs1e⟩ : ∃ s, s = signW n1 xs := ⟨_, rfl⟩
    obtain ⟨s2, hs2e⟩ : ∃ s, s = signW n2 ys := ⟨_, rfl⟩
    obtain ⟨s3, hs3e⟩ : ∃ s, s = signW rn rs := ⟨_, rfl⟩
    rw [← hs1e] at hs1 HSG1
    rw [← hs2e] at hs2 HSG2
    rw [← hs3e] at HSG3
    have HRM := Lib.hid (And.intro hbr (And.intro hvr (And.intro hrn (And.intro hO (And.intro hs3e hyp)))))
    have C6b := Lib.hid (C4.out.trans (C6.out.1.mono hw4))
    have hw6 : w4.heap.size + 2 ≤ w6.heap.size := C6.out.2
    clear hbr hvr hrn hO hs1e hs2e hs3e hyp HQR
    cases n1 <;> cases n2
    · go_wp2_with fail
      refine HSG1.out.mono ?_
      rintro e w' ⟨rfl, rfl⟩
      go_wp2_with fail
      refine HSG2.out.mono ?_
      rintro e w' ⟨rfl, rfl⟩
      have HMB := Lib.hid (make_bigint _ (w4.heap.size + 1) rn rs w6 HRM.out.1)
      have HVAL := Lib.hid (show valI rn rs = R from (by rw [HRM.out.2.2.1, valI_rem, HRM.out.2.1, HFL.out, flr_same]; rfl))
      go_wp2_with fail
      refine HMB.out.mono ?_
      rw [HVAL.out]
      rintro e w8 ⟨v8, rfl, hsi, hb8⟩
      obtain ⟨x8, p8, hv8⟩ := si_fin (w' := w8) hsi
      subst hv8
      have C8 := Lib.hid (C6b.out.trans (hb8.mono (by omega)))
      have HS8 := Lib.hid (hsi.base (C := w.heap.size + 1 + 1 + 1) (by omega))
      obtain ⟨e0, e1, f0, f1⟩ := blk2 (six_cells C8.out).2.1
      clear hsi hb8 HMB
      go_wp2
      refine bodyPost_ret (v := .agg #[.int .i64 x8, .pointer p8]) (by simp [results, Tryz.results19, go_sem, e0, e1]) rfl (mod_fin HS8.out (six_cells C8.out).2.2.2)
    · rcases List.eq_nil_or_concat rs with h0 | ⟨ri, rl, h0⟩
      · have hq3 : (s3 != 0) = false := by rw [HRM.out.2.2.2.2.1, h0]; simp [signW]
        have H0 := Lib.hid h0
        clear h0
        go_wp2_with fail
        refine HSG1.out.mono ?_
        rintro e w' ⟨rfl, rfl⟩
        go_wp2_with fail
        refine HSG2.out.mono ?_
        rintro e w' ⟨rfl, rfl⟩
        go_wp2_with fail
        refine HSG3.out.mono ?_
        rintro e w' ⟨rfl, rfl⟩
        have HMB := Lib.hid (make_bigint _ (w4.heap.size + 1) rn rs w6 HRM.out.1)
        have HVAL := Lib.hid (show valI rn rs = R from (by have h2 := HRM.out.2.1; rw [H0.out] at h2; rw [HRM.out.2.2.1, valI_rem, HFL.out, H0.out]; rw [show flr false true (valW xs) (valW ys) = 0 from flr_zero true _ _ h2.symm]; rfl))
        go_wp2_with fail
        refine HMB.out.mono ?_
        rw [HVAL.out]
        rintro e w8 ⟨v8, rfl, hsi, hb8⟩
        obtain ⟨x8, p8, hv8⟩ := si_fin (w' := w8) hsi
        subst hv8
        have C8 := Lib.hid (C6b.out.trans (hb8.mono (by omega)))
        have HS8 := Lib.hid (hsi.base (C := w.heap.size + 1 + 1 + 1) (by omega))
        obtain ⟨e0, e1, f0, f1⟩ := blk2 (six_cells C8.out).2.1
        clear hsi hb8 HMB
        go_wp2
        refine bodyPost_ret (v := .agg #[.int .i64 x8, .pointer p8]) (by simp [results, Tryz.results19, go_sem, e0, e1]) rfl (mod_fin HS8.out (six_cells C8.out).2.2.2)
      · have hne : rs ≠ [] := by rw [h0]; simp
        have hrn : rn = false := by rw [HRM.out.2.2.1, h0]; simp
        have hq3 : (s3 != 0) = true := by rw [HRM.out.2.2.2.2.1, h0]; simp [signW]; try split <;> simp
        have HNE := Lib.hid hne
        clear h0 hne
        subst hrn
        have HLT : Hid (valW rs < valW ys) := by unfold Hid; rw [HRM.out.2.1]; exact Nat.mod_lt _ HRM.out.2.2.2.2.2
        have HNZ : Hid (valW xs % valW ys ≠ 0) := fun h => by
          have h2 := HRM.out.2.1
          have h3 := topNZ_ge (by obtain ⟨_, _, _, h, _⟩ := HRM.out.1; exact h) HNE.out
          have h4 : 0 < W64 ^ (rs.length - 1) := Nat.pow_pos W64_pos
          omega
        have HAD := Lib.hid (add_made HB2.out HRM.out.1 HRM.out.2.2.2.1 (by decide) HNE.out HLT.out)
        go_wp2_with fail
        refine HSG1.out.mono ?_
        rintro e w' ⟨rfl, rfl⟩
        go_wp2_with fail
        refine HSG2.out.mono ?_
        rintro e w' ⟨rfl, rfl⟩
        go_wp2_with fail
        refine HSG3.out.mono ?_
        rintro e w' ⟨rfl, rfl⟩
        go_wp2_with fail
        refine HAD.out.mono ?_
        rintro e w7 ⟨ws, rfl, hbw, hvw, hOw⟩
        have HBW := Lib.hid (And.intro hbw hvw)
        have hsz2 : (two0 w4).heap.size = w4.heap.size + 2 := by simp [two0]
        have C7 := Lib.hid (C6b.out.trans (hOw.to_below (B := w.heap.size + 1 + 1 + 1) (by omega) (fun k _ e => by omega)))
        have hw7 : w6.heap.size ≤ w7.heap.size := hOw.size
        clear hbw hvw hOw HAD
        have HMB := Lib.hid (make_bigint _ (w4.heap.size + 1) (!false) ws w7 HBW.out.1)
        have HVAL := Lib.hid (show valI (!false) ws = R from (by rw [valI_sg, HBW.out.2, HRM.out.2.1, HFL.out]; exact (flr_apart true _ _ HNZ.out).symm))
        go_wp2_with fail
        refine HMB.out.mono ?_
        rw [HVAL.out]
        rintro e w8 ⟨v8, rfl, hsi, hb8⟩
        obtain ⟨x8, p8, hv8⟩ := si_fin (w' := w8) hsi
        subst hv8
        have C8 := Lib.hid (C7.out.trans (hb8.mono (by omega)))
        have HS8 := Lib.hid (hsi.base (C := w.heap.size + 1 + 1 + 1) (by omega))
        obtain ⟨e0, e1, f0, f1⟩ := blk2 (six_cells C8.out).2.1
        clear hsi hb8 HMB
        go_wp2
        refine bodyPost_ret (v := .agg #[.int .i64 x8, .pointer p8]) (by simp [results, Tryz.results19, go_sem, e0, e1]) rfl (mod_fin HS8.out (six_cells C8.out).2.2.2)
    · rcases List.eq_nil_or_concat rs with h0 | ⟨ri, rl, h0⟩
      · have hq3 : (s3 != 0) = false := by rw [HRM.out.2.2.2.2.1, h0]; simp [signW]
        have H0 := Lib.hid h0
        clear h0
        go_wp2_with fail
        refine HSG1.out.mono ?_
        rintro e w' ⟨rfl, rfl⟩
        go_wp2_with fail
        refine HSG2.out.mono ?_
        rintro e w' ⟨rfl, rfl⟩
        go_wp2_with fail
        refine HSG3.out.mono ?_
        rintro e w' ⟨rfl, rfl⟩
        have HMB := Lib.hid (make_bigint _ (w4.heap.size + 1) rn rs w6 HRM.out.1)
        have HVAL := Lib.hid (show valI rn rs = R from (by have h2 := HRM.out.2.1; rw [H0.out] at h2; rw [HRM.out.2.2.1, valI_rem, HFL.out, H0.out]; rw [show flr true false (valW xs) (valW ys) = 0 from flr_zero false _ _ h2.symm]; rfl))
        go_wp2_with fail
        refine HMB.out.mono ?_
        rw [HVAL.out]
        rintro e w8 ⟨v8, rfl, hsi, hb8⟩
        obtain ⟨x8, p8, hv8⟩ := si_fin (w' := w8) hsi
        subst hv8
        have C8 := Lib.hid (C6b.out.trans (hb8.mono (by omega)))
        have HS8 := Lib.hid (hsi.base (C := w.heap.size + 1 + 1 + 1) (by omega))
        obtain ⟨e0, e1, f0, f1⟩ := blk2 (six_cells C8.out).2.1
        clear hsi hb8 HMB
        go_wp2
        refine bodyPost_ret (v := .agg #[.int .i64 x8, .pointer p8]) (by simp [results, Tryz.results19, go_sem, e0, e1]) rfl (mod_fin HS8.out (six_cells C8.out).2.2.2)
      · have hne : rs ≠ [] := by rw [h0]; simp
        have hrn : rn = true := by rw [HRM.out.2.2.1, h0]; simp
        have hq3 : (s3 != 0) = true := by rw [HRM.out.2.2.2.2.1, h0]; simp [signW]; try split <;> simp
        have HNE := Lib.hid hne
        clear h0 hne
        subst hrn
        have HLT : Hid (valW rs < valW ys) := by unfold Hid; rw [HRM.out.2.1]; exact Nat.mod_lt _ HRM.out.2.2.2.2.2
        have HNZ : Hid (valW xs % valW ys ≠ 0) := fun h => by
          have h2 := HRM.out.2.1
          have h3 := topNZ_ge (by obtain ⟨_, _, _, h, _⟩ := HRM.out.1; exact h) HNE.out
          have h4 : 0 < W64 ^ (rs.length - 1) := Nat.pow_pos W64_pos
          omega
        have HAD := Lib.hid (add_made HB2.out HRM.out.1 HRM.out.2.2.2.1 (by decide) HNE.out HLT.out)
        go_wp2_with fail
        refine HSG1.out.mono ?_
        rintro e w' ⟨rfl, rfl⟩
        go_wp2_with fail
        refine HSG2.out.mono ?_
        rintro e w' ⟨rfl, rfl⟩
        go_wp2_with fail
        refine HSG3.out.mono ?_
        rintro e w' ⟨rfl, rfl⟩
        go_wp2_with fail
        refine HAD.out.mono ?_
        rintro e w7 ⟨ws, rfl, hbw, hvw, hOw⟩
        have HBW := Lib.hid (And.intro hbw hvw)
        have hsz2 : (two0 w4).heap.size = w4.heap.size + 2 := by simp [two0]
        have C7 := Lib.hid (C6b.out.trans (hOw.to_below (B := w.heap.size + 1 + 1 + 1) (by omega) (fun k _ e => by omega)))
        have hw7 : w6.heap.size ≤ w7.heap.size := hOw.size
        clear hbw hvw hOw HAD
        have HMB := Lib.hid (make_bigint _ (w4.heap.size + 1) (!true) ws w7 HBW.out.1)
        have HVAL := Lib.hid (show valI (!true) ws = R from (by rw [valI_sg, HBW.out.2, HRM.out.2.1, HFL.out]; exact (flr_apart false _ _ HNZ.out).symm))
        go_wp2_with fail
        refine HMB.out.mono ?_
        rw [HVAL.out]
        rintro e w8 ⟨v8, rfl, hsi, hb8⟩
        obtain ⟨x8, p8, hv8⟩ := si_fin (w' := w8) hsi
        subst hv8
        have C8 := Lib.hid (C7.out.trans (hb8.mono (by omega)))
        have HS8 := Lib.hid (hsi.base (C := w.heap.size + 1 + 1 + 1) (by omega))
        obtain ⟨e0, e1, f0, f1⟩ := blk2 (six_cells C8.out).2.1
        clear hsi hb8 HMB
        go_wp2
        refine bodyPost_ret (v := .agg #[.int .i64 x8, .pointer p8]) (by simp [results, Tryz.results19, go_sem, e0, e1]) rfl (mod_fin HS8.out (six_cells C8.out).2.2.2)
    · go_wp2_with fail
      refine HSG1.out.mono ?_
      rintro e w' ⟨rfl, rfl⟩
      go_wp2_with fail
      refine HSG2.out.mono ?_
      rintro e w' ⟨rfl, rfl⟩
      have HMB := Lib.hid (make_bigint _ (w4.heap.size + 1) rn rs w6 HRM.out.1)
      have HVAL := Lib.hid (show valI rn rs = R from (by rw [HRM.out.2.2.1, valI_rem, HRM.out.2.1, HFL.out, flr_same]; rfl))
      go_wp2_with fail
      refine HMB.out.mono ?_
      rw [HVAL.out]
      rintro e w8 ⟨v8, rfl, hsi, hb8⟩
      obtain ⟨x8, p8, hv8⟩ := si_fin (w' := w8) hsi
      subst hv8
      have C8 := Lib.hid (C6b.out.trans (hb8.mono (by omega)))
      have HS8 := Lib.hid (hsi.base (C := w.heap.size + 1 + 1 + 1) (by omega))
      obtain ⟨e0, e1, f0, f1⟩ := blk2 (six_cells C8.out).2.1
      clear hsi hb8 HMB
      go_wp2
      refine bodyPost_ret (v := .agg #[.int .i64 x8, .pointer p8]) (by simp [results, Tryz.results19, go_sem, e0, e1]) rfl (mod_fin HS8.out (six_cells C8.out).2.2.2)
set_option maxRecDepth 20000 in
set_option maxHeartbeats 4000000 in
theorem star_modB (B1 B2 : Nat) (x1 x2 : Int) (q1 : Addr) (n m : Int) (w : World) (hv1 : SI w B1 (.agg #[.int .i64 x1, .pointer (some q1)]) n) (hv2 : SI w B2 (.agg #[.int .i64 x2, .pointer none]) m) (hn : n.natAbs < W64 ^ 13) (hm : m.natAbs < W64 ^ 13) (hm0 : m ≠ 0) (hT : Thr w) :
    Calls Tryz.prog 19 #[.agg #[.int .i64 x1, .pointer (some q1)], .agg #[.int .i64 x2, .pointer none]] w (SIPost (imod n m) w) := by
  have C0 := Lib.hid (Below.refl (w.heap.size + 1 + 1 + 1) (((w.alloc (.cells #[.int .i64 x1, .pointer (some q1)] 48)).alloc (.cells #[.int .i64 x2, .pointer none] 48)).alloc (.cells #[.int .i64 0, .pointer none] 48)))
  have HV1 := Lib.hid hv1
  have HV2 := Lib.hid hv2
  have HNM := Lib.hid (And.intro hn (And.intro hm hm0))
  have HT := Lib.hid hT
  have tok1 : True := trivial
  obtain ⟨R, hR⟩ : ∃ R, R = imod n m := ⟨_, rfl⟩
  rw [← hR]
  have HR := Lib.hid hR
  clear hv1 hv2 hn hm hm0 hT hR
  go_enter Tryz.func19, Tryz.ntmps19
  go_wp2_with fail
  refine (int_get x1 (some q1) _).mono ?_
  rintro e w1 ⟨rfl, hb1⟩
  have C1 := Lib.hid (C0.out.trans (hb1.mono (by simp)))
  clear hb1
  obtain ⟨⟨c0, c1, c2, c3⟩, _⟩ := six_cells C1.out
  go_wp2_with fail
  refine (int_get x2 none _).mono ?_
  rintro e w2 ⟨rfl, hb2⟩
  have C2 := Lib.hid (C1.out.trans (hb2.mono (six_cells C1.out).2.2.1))
  clear hb2 c0 c1 c2 c3
  obtain ⟨⟨d0, d1, d2, d3⟩, _⟩ := six_cells C2.out
  go_wp2_with fail
  go_region_held3 (fun w' => w'.cell? ⟨w.heap.size, 0, none⟩ = some (.int .i64 x1) ∧ w'.cell? ⟨w.heap.size, 1, none⟩ = some (.pointer (some q1)) ∧ w'.cell? ⟨w.heap.size + 1, 0, none⟩ = some (.int .i64 x2) ∧ w'.cell? ⟨w.heap.size + 1, 1, none⟩ = some (.pointer none))
    (first | exact (six_cells C4.out).1 | exact (six_cells C3.out).1 | exact ⟨d0, d1, d2, d3⟩ | go_keep)
    (first
    | (go_at_call 32; have _t := tok1; refine (star_bigint B1 (.agg #[.int .i64 x1, .pointer (some q1)]) n _ (HV1.out.below (six_cells (C2.out.drew)).2.2.2)).mono ?_; rintro e w3 ⟨g1, n1, xs, rfl, hg1, hbi1, hval1, hb3⟩; have C3 := Lib.hid (C2.out.drew.trans (hb3.mono (six_cells C2.out.drew).2.2.1)); have HB1 := Lib.hid hbi1; have HVL1 := Lib.hid hval1; clear hb3 hbi1 hg1 hval1 _t tok1)
    | (go_at_call 32; refine (star_bigint B2 (.agg #[.int .i64 x2, .pointer none]) m _ (HV2.out.below (six_cells C3.out).2.2.2)).mono ?_; rintro e w4 ⟨g2, n2, ys, rfl, hg2, hbi2, hval2, hb4⟩; have C4 := Lib.hid (C3.out.trans (hb4.mono (six_cells C3.out).2.2.1)); have HB2 := Lib.hid hbi2; have HB1b := Lib.hid (HB1.out.below hb4); have HVL2 := Lib.hid hval2; clear hb4 hbi2 hg2 hval2))
  all_goals
    have HQR := Lib.hid (qr_made g1 g2 n1 n2 xs ys n m w4 HB1b.out HB2.out HVL1.out HVL2.out HNM.out.1 HNM.out.2.1 HNM.out.2.2 (HT.out.below (six_cells C4.out).2.2.2 HT.out.lt))
    have hw4 : w.heap.size + 1 + 1 + 1 ≤ w4.heap.size := (six_cells C4.out).2.2.1
    clear d0 d1 d2 d3
    go_wp2_with fail
    refine HQR.out.mono ?_
    rintro e w6 ⟨rn, rs, rfl, hbr, hvr, hrn, hO⟩
    have hyp : 0 < valW ys := by
      rcases Nat.eq_zero_or_pos (valW ys) with h | h
      · exfalso; have e2 := HVL2.out; rw [valI_sg, h] at e2; exact HNM.out.2.2 (by rw [← e2]; cases n2 <;> rfl)
      · exact h
    have C6 := Lib.hid (two0_below hO)
    have HFL : Hid (R = flr n1 n2 (valW xs) (valW ys)) := by
      unfold Hid
      rw [HR.out, ← flr_imod n1 n2 _ _ hyp, ← valI_sg, ← valI_sg, HVL1.out, HVL2.out]
    have hs1 := signW_neg n1 xs (by obtain ⟨_, _, _, _, h, _⟩ := HB1b.out; exact h)
    have hs2 := signW_neg n2 ys (by obtain ⟨_, _, _, _, h, _⟩ := HB2.out; exact h)
    have HSG1 := Lib.hid (big_sign 0 g1 n1 xs w6 (HB1b.out.below C6.out.1))
    have HSG2 := Lib.hid (big_sign 0 g2 n2 ys w6 (HB2.out.below C6.out.1))
    have HSG3 := Lib.hid (big_sign _ _ rn rs w6 hbr)
    unfold SignWPost at HSG1 HSG2 HSG3
    obtain ⟨s1, hs1e⟩ : ∃ s, s = signW n1 xs := ⟨_, rfl⟩
    obtain ⟨s2, hs2e⟩ : ∃ s, s = signW n2 ys := ⟨_, rfl⟩
    obtain ⟨s3, hs3e⟩ : ∃ s, s = signW rn rs := ⟨_, rfl⟩
    rw [← hs1e] at hs1 HSG1
    rw [← hs2e] at hs2 HSG2
    rw [← hs3e] at HSG3
    have HRM := Lib.hid (And.intro hbr (And.intro hvr (And.intro hrn (And.intro hO (And.intro hs3e hyp)))))
    have C6b := Lib.hid (C4.out.trans (C6.out.1.mono hw4))
    have hw6 : w4.heap.size + 2 ≤ w6.heap.size := C6.out.2
    clear hbr hvr hrn hO hs1e hs2e hs3e hyp HQR
    cases n1 <;> cases n2
    · go_wp2_with fail
      refine HSG1.out.mono ?_
      rintro e w' ⟨rfl, rfl⟩
      go_wp2_with fail
      refine HSG2.out.mono ?_
      rintro e w' ⟨rfl, rfl⟩
      have HMB := Lib.hid (make_bigint _ (w4.heap.size + 1) rn rs w6 HRM.out.1)
      have HVAL := Lib.hid (show valI rn rs = R from (by rw [HRM.out.2.2.1, valI_rem, HRM.out.2.1, HFL.out, flr_same]; rfl))
      go_wp2_with fail
      refine HMB.out.mono ?_
      rw [HVAL.out]
      rintro e w8 ⟨v8, rfl, hsi, hb8⟩
      obtain ⟨x8, p8, hv8⟩ := si_fin (w' := w8) hsi
      subst hv8
      have C8 := Lib.hid (C6b.out.trans (hb8.mono (by omega)))
      have HS8 := Lib.hid (hsi.base (C := w.heap.size + 1 + 1 + 1) (by omega))
      obtain ⟨e0, e1, f0, f1⟩ := blk2 (six_cells C8.out).2.1
      clear hsi hb8 HMB
      go_wp2
      refine bodyPost_ret (v := .agg #[.int .i64 x8, .pointer p8]) (by simp [results, Tryz.results19, go_sem, e0, e1]) rfl (mod_fin HS8.out (six_cells C8.out).2.2.2)
    · rcases List.eq_nil_or_concat rs with h0 | ⟨ri, rl, h0⟩
      · have hq3 : (s3 != 0) = false := by rw [HRM.out.2.2.2.2.1, h0]; simp [signW]
        have H0 := Lib.hid h0
        clear h0
        go_wp2_with fail
        refine HSG1.out.mono ?_
        rintro e w' ⟨rfl, rfl⟩
        go_wp2_with fail
        refine HSG2.out.mono ?_
        rintro e w' ⟨rfl, rfl⟩
        go_wp2_with fail
        refine HSG3.out.mono ?_
        rintro e w' ⟨rfl, rfl⟩
        have HMB := Lib.hid (make_bigint _ (w4.heap.size + 1) rn rs w6 HRM.out.1)
        have HVAL := Lib.hid (show valI rn rs = R from (by have h2 := HRM.out.2.1; rw [H0.out] at h2; rw [HRM.out.2.2.1, valI_rem, HFL.out, H0.out]; rw [show flr false true (valW xs) (valW ys) = 0 from flr_zero true _ _ h2.symm]; rfl))
        go_wp2_with fail
        refine HMB.out.mono ?_
        rw [HVAL.out]
        rintro e w8 ⟨v8, rfl, hsi, hb8⟩
        obtain ⟨x8, p8, hv8⟩ := si_fin (w' := w8) hsi
        subst hv8
        have C8 := Lib.hid (C6b.out.trans (hb8.mono (by omega)))
        have HS8 := Lib.hid (hsi.base (C := w.heap.size + 1 + 1 + 1) (by omega))
        obtain ⟨e0, e1, f0, f1⟩ := blk2 (six_cells C8.out).2.1
        clear hsi hb8 HMB
        go_wp2
        refine bodyPost_ret (v := .agg #[.int .i64 x8, .pointer p8]) (by simp [results, Tryz.results19, go_sem, e0, e1]) rfl (mod_fin HS8.out (six_cells C8.out).2.2.2)
      · have hne : rs ≠ [] := by rw [h0]; simp
        have hrn : rn = false := by rw [HRM.out.2.2.1, h0]; simp
        have hq3 : (s3 != 0) = true := by rw [HRM.out.2.2.2.2.1, h0]; simp [signW]; try split <;> simp
        have HNE := Lib.hid hne
        clear h0 hne
        subst hrn
        have HLT : Hid (valW rs < valW ys) := by unfold Hid; rw [HRM.out.2.1]; exact Nat.mod_lt _ HRM.out.2.2.2.2.2
        have HNZ : Hid (valW xs % valW ys ≠ 0) := fun h => by
          have h2 := HRM.out.2.1
          have h3 := topNZ_ge (by obtain ⟨_, _, _, h, _⟩ := HRM.out.1; exact h) HNE.out
          have h4 : 0 < W64 ^ (rs.length - 1) := Nat.pow_pos W64_pos
          omega
        have HAD := Lib.hid (add_made HB2.out HRM.out.1 HRM.out.2.2.2.1 (by decide) HNE.out HLT.out)
        go_wp2_with fail
        refine HSG1.out.mono ?_
        rintro e w' ⟨rfl, rfl⟩
        go_wp2_with fail
        refine HSG2.out.mono ?_
        rintro e w' ⟨rfl, rfl⟩
        go_wp2_with fail
        refine HSG3.out.mono ?_
        rintro e w' ⟨rfl, rfl⟩
        go_wp2_with fail
        refine HAD.out.mono ?_
        rintro e w7 ⟨ws, rfl, hbw, hvw, hOw⟩
        have HBW := Lib.hid (And.intro hbw hvw)
        have hsz2 : (two0 w4).heap.size = w4.heap.size + 2 := by simp [two0]
        have C7 := Lib.hid (C6b.out.trans (hOw.to_below (B := w.heap.size + 1 + 1 + 1) (by omega) (fun k _ e => by omega)))
        have hw7 : w6.heap.size ≤ w7.heap.size := hOw.size
        clear hbw hvw hOw HAD
        have HMB := Lib.hid (make_bigint _ (w4.heap.size + 1) (!false) ws w7 HBW.out.1)
        have HVAL := Lib.hid (show valI (!false) ws = R from (by rw [valI_sg, HBW.out.2, HRM.out.2.1, HFL.out]; exact (flr_apart true _ _ HNZ.out).symm))
        go_wp2_with fail
        refine HMB.out.mono ?_
        rw [HVAL.out]
        rintro e w8 ⟨v8, rfl, hsi, hb8⟩
        obtain ⟨x8, p8, hv8⟩ := si_fin (w' := w8) hsi
        subst hv8
        have C8 := Lib.hid (C7.out.trans (hb8.mono (by omega)))
        have HS8 := Lib.hid (hsi.base (C := w.heap.size + 1 + 1 + 1) (by omega))
        obtain ⟨e0, e1, f0, f1⟩ := blk2 (six_cells C8.out).2.1
        clear hsi hb8 HMB
        go_wp2
        refine bodyPost_ret (v := .agg #[.int .i64 x8, .pointer p8]) (by simp [results, Tryz.results19, go_sem, e0, e1]) rfl (mod_fin HS8.out (six_cells C8.out).2.2.2)
    · rcases List.eq_nil_or_concat rs with h0 | ⟨ri, rl, h0⟩
      · have hq3 : (s3 != 0) = false := by rw [HRM.out.2.2.2.2.1, h0]; simp [signW]
        have H0 := Lib.hid h0
        clear h0
        go_wp2_with fail
        refine HSG1.out.mono ?_
        rintro e w' ⟨rfl, rfl⟩
        go_wp2_with fail
        refine HSG2.out.mono ?_
        rintro e w' ⟨rfl, rfl⟩
        go_wp2_with fail
        refine HSG3.out.mono ?_
        rintro e w' ⟨rfl, rfl⟩
        have HMB := Lib.hid (make_bigint _ (w4.heap.size + 1) rn rs w6 HRM.out.1)
        have HVAL := Lib.hid (show valI rn rs = R from (by have h2 := HRM.out.2.1; rw [H0.out] at h2; rw [HRM.out.2.2.1, valI_rem, HFL.out, H0.out]; rw [show flr true false (valW xs) (valW ys) = 0 from flr_zero false _ _ h2.symm]; rfl))
        go_wp2_with fail
        refine HMB.out.mono ?_
        rw [HVAL.out]
        rintro e w8 ⟨v8, rfl, hsi, hb8⟩
        obtain ⟨x8, p8, hv8⟩ := si_fin (w' := w8) hsi
        subst hv8
        have C8 := Lib.hid (C6b.out.trans (hb8.mono (by omega)))
        have HS8 := Lib.hid (hsi.base (C := w.heap.size + 1 + 1 + 1) (by omega))
        obtain ⟨e0, e1, f0, f1⟩ := blk2 (six_cells C8.out).2.1
        clear hsi hb8 HMB
        go_wp2
        refine bodyPost_ret (v := .agg #[.int .i64 x8, .pointer p8]) (by simp [results, Tryz.results19, go_sem, e0, e1]) rfl (mod_fin HS8.out (six_cells C8.out).2.2.2)
      · have hne : rs ≠ [] := by rw [h0]; simp
        have hrn : rn = true := by rw [HRM.out.2.2.1, h0]; simp
        have hq3 : (s3 != 0) = true := by rw [HRM.out.2.2.2.2.1, h0]; simp [signW]; try split <;> simp
        have HNE := Lib.hid hne
        clear h0 hne
        subst hrn
        have HLT : Hid (valW rs < valW ys) := by unfold Hid; rw [HRM.out.2.1]; exact Nat.mod_lt _ HRM.out.2.2.2.2.2
        have HNZ : Hid (valW xs % valW ys ≠ 0) := fun h => by
          have h2 := HRM.out.2.1
          have h3 := topNZ_ge (by obtain ⟨_, _, _, h, _⟩ := HRM.out.1; exact h) HNE.out
          have h4 : 0 < W64 ^ (rs.length - 1) := Nat.pow_pos W64_pos
          omega
        have HAD := Lib.hid (add_made HB2.out HRM.out.1 HRM.out.2.2.2.1 (by decide) HNE.out HLT.out)
        go_wp2_with fail
        refine HSG1.out.mono ?_
        rintro e w' ⟨rfl, rfl⟩
        go_wp2_with fail
        refine HSG2.out.mono ?_
        rintro e w' ⟨rfl, rfl⟩
        go_wp2_with fail
        refine HSG3.out.mono ?_
        rintro e w' ⟨rfl, rfl⟩
        go_wp2_with fail
        refine HAD.out.mono ?_
        rintro e w7 ⟨ws, rfl, hbw, hvw, hOw⟩
        have HBW := Lib.hid (And.intro hbw hvw)
        have hsz2 : (two0 w4).heap.size = w4.heap.size + 2 := by simp [two0]
        have C7 := Lib.hid (C6b.out.trans (hOw.to_below (B := w.heap.size + 1 + 1 + 1) (by omega) (fun k _ e => by omega)))
        have hw7 : w6.heap.size ≤ w7.heap.size := hOw.size
        clear hbw hvw hOw HAD
        have HMB := Lib.hid (make_bigint _ (w4.heap.size + 1) (!true) ws w7 HBW.out.1)
        have HVAL := Lib.hid (show valI (!true) ws = R from (by rw [valI_sg, HBW.out.2, HRM.out.2.1, HFL.out]; exact (flr_apart false _ _ HNZ.out).symm))
        go_wp2_with fail
        refine HMB.out.mono ?_
        rw [HVAL.out]
        rintro e w8 ⟨v8, rfl, hsi, hb8⟩
        obtain ⟨x8, p8, hv8⟩ := si_fin (w' := w8) hsi
        subst hv8
        have C8 := Lib.hid (C7.out.trans (hb8.mono (by omega)))
        have HS8 := Lib.hid (hsi.base (C := w.heap.size + 1 + 1 + 1) (by omega))
        obtain ⟨e0, e1, f0, f1⟩ := blk2 (six_cells C8.out).2.1
        clear hsi hb8 HMB
        go_wp2
        refine bodyPost_ret (v := .agg #[.int .i64 x8, .pointer p8]) (by simp [results, Tryz.results19, go_sem, e0, e1]) rfl (mod_fin HS8.out (six_cells C8.out).2.2.2)
    · go_wp2_with fail
      refine HSG1.out.mono ?_
      rintro e w' ⟨rfl, rfl⟩
      go_wp2_with fail
      refine HSG2.out.mono ?_
      rintro e w' ⟨rfl, rfl⟩
      have HMB := Lib.hid (make_bigint _ (w4.heap.size + 1) rn rs w6 HRM.out.1)
      have HVAL := Lib.hid (show valI rn rs = R from (by rw [HRM.out.2.2.1, valI_rem, HRM.out.2.1, HFL.out, flr_same]; rfl))
      go_wp2_with fail
      refine HMB.out.mono ?_
      rw [HVAL.out]
      rintro e w8 ⟨v8, rfl, hsi, hb8⟩
      obtain ⟨x8, p8, hv8⟩ := si_fin (w' := w8) hsi
      subst hv8
      have C8 := Lib.hid (C6b.out.trans (hb8.mono (by omega)))
      have HS8 := Lib.hid (hsi.base (C := w.heap.size + 1 + 1 + 1) (by omega))
      obtain ⟨e0, e1, f0, f1⟩ := blk2 (six_cells C8.out).2.1
      clear hsi hb8 HMB
      go_wp2
      refine bodyPost_ret (v := .agg #[.int .i64 x8, .pointer p8]) (by simp [results, Tryz.results19, go_sem, e0, e1]) rfl (mod_fin HS8.out (six_cells C8.out).2.2.2)
set_option maxRecDepth 20000 in
set_option maxHeartbeats 4000000 in
theorem star_modC (B1 B2 : Nat) (x1 x2 : Int) (q2 : Addr) (n m : Int) (w : World) (hv1 : SI w B1 (.agg #[.int .i64 x1, .pointer none]) n) (hv2 : SI w B2 (.agg #[.int .i64 x2, .pointer (some q2)]) m) (hn : n.natAbs < W64 ^ 13) (hm : m.natAbs < W64 ^ 13) (hm0 : m ≠ 0) (hT : Thr w) :
    Calls Tryz.prog 19 #[.agg #[.int .i64 x1, .pointer none], .agg #[.int .i64 x2, .pointer (some q2)]] w (SIPost (imod n m) w) := by
  have C0 := Lib.hid (Below.refl (w.heap.size + 1 + 1 + 1) (((w.alloc (.cells #[.int .i64 x1, .pointer none] 48)).alloc (.cells #[.int .i64 x2, .pointer (some q2)] 48)).alloc (.cells #[.int .i64 0, .pointer none] 48)))
  have HV1 := Lib.hid hv1
  have HV2 := Lib.hid hv2
  have HNM := Lib.hid (And.intro hn (And.intro hm hm0))
  have HT := Lib.hid hT
  have tok1 : True := trivial
  obtain ⟨R, hR⟩ : ∃ R, R = imod n m := ⟨_, rfl⟩
  rw [← hR]
  have HR := Lib.hid hR
  clear hv1 hv2 hn hm hm0 hT hR
  go_enter Tryz.func19, Tryz.ntmps19
  go_wp2_with fail
  refine (int_get x1 none _).mono ?_
  rintro e w1 ⟨rfl, hb1⟩
  have C1 := Lib.hid (C0.out.trans (hb1.mono (by simp)))
  clear hb1
  obtain ⟨⟨c0, c1, c2, c3⟩, _⟩ := six_cells C1.out
  go_wp2_with fail
  refine (int_get x2 (some q2) _).mono ?_
  rintro e w2 ⟨rfl, hb2⟩
  have C2 := Lib.hid (C1.out.trans (hb2.mono (six_cells C1.out).2.2.1))
  clear hb2 c0 c1 c2 c3
  obtain ⟨⟨d0, d1, d2, d3⟩, _⟩ := six_cells C2.out
  go_wp2_with fail
  go_region_held3 (fun w' => w'.cell? ⟨w.heap.size, 0, none⟩ = some (.int .i64 x1) ∧ w'.cell? ⟨w.heap.size, 1, none⟩ = some (.pointer none) ∧ w'.cell? ⟨w.heap.size + 1, 0, none⟩ = some (.int .i64 x2) ∧ w'.cell? ⟨w.heap.size + 1, 1, none⟩ = some (.pointer (some q2)))
    (first | exact (six_cells C4.out).1 | exact (six_cells C3.out).1 | exact ⟨d0, d1, d2, d3⟩ | go_keep)
    (first
    | (go_at_call 32; have _t := tok1; refine (star_bigint B1 (.agg #[.int .i64 x1, .pointer none]) n _ (HV1.out.below (six_cells (C2.out.drew)).2.2.2)).mono ?_; rintro e w3 ⟨g1, n1, xs, rfl, hg1, hbi1, hval1, hb3⟩; have C3 := Lib.hid (C2.out.drew.trans (hb3.mono (six_cells C2.out.drew).2.2.1)); have HB1 := Lib.hid hbi1; have HVL1 := Lib.hid hval1; clear hb3 hbi1 hg1 hval1 _t tok1)
    | (go_at_call 32; refine (star_bigint B2 (.agg #[.int .i64 x2, .pointer (some q2)]) m _ (HV2.out.below (six_cells C3.out).2.2.2)).mono ?_; rintro e w4 ⟨g2, n2, ys, rfl, hg2, hbi2, hval2, hb4⟩; have C4 := Lib.hid (C3.out.trans (hb4.mono (six_cells C3.out).2.2.1)); have HB2 := Lib.hid hbi2; have HB1b := Lib.hid (HB1.out.below hb4); have HVL2 := Lib.hid hval2; clear hb4 hbi2 hg2 hval2))
  all_goals
    have HQR := Lib.hid (qr_made g1 g2 n1 n2 xs ys n m w4 HB1b.out HB2.out HVL1.out HVL2.out HNM.out.1 HNM.out.2.1 HNM.out.2.2 (HT.out.below (six_cells C4.out).2.2.2 HT.out.lt))
    have hw4 : w.heap.size + 1 + 1 + 1 ≤ w4.heap.size := (six_cells C4.out).2.2.1
    clear d0 d1 d2 d3
    go_wp2_with fail
    refine HQR.out.mono ?_
    rintro e w6 ⟨rn, rs, rfl, hbr, hvr, hrn, hO⟩
    have hyp : 0 < valW ys := by
      rcases Nat.eq_zero_or_pos (valW ys) with h | h
      · exfalso; have e2 := HVL2.out; rw [valI_sg, h] at e2; exact HNM.out.2.2 (by rw [← e2]; cases n2 <;> rfl)
      · exact h
    have C6 := Lib.hid (two0_below hO)
    have HFL : Hid (R = flr n1 n2 (valW xs) (valW ys)) := by
      unfold Hid
      rw [HR.out, ← flr_imod n1 n2 _ _ hyp, ← valI_sg, ← valI_sg, HVL1.out, HVL2.out]
    have hs1 := signW_neg n1 xs (by obtain ⟨_, _, _, _, h, _⟩ := HB1b.out; exact h)
    have hs2 := signW_neg n2 ys (by obtain ⟨_, _, _, _, h, _⟩ := HB2.out; exact h)
    have HSG1 := Lib.hid (big_sign 0 g1 n1 xs w6 (HB1b.out.below C6.out.1))
    have HSG2 := Lib.hid (big_sign 0 g2 n2 ys w6 (HB2.out.below C6.out.1))
    have HSG3 := Lib.hid (big_sign _ _ rn rs w6 hbr)
    unfold SignWPost at HSG1 HSG2 HSG3
    obtain ⟨s1, hs1e⟩ : ∃ s, s = signW n1 xs := ⟨_, rfl⟩
    obtain ⟨s2, hs2e⟩ : ∃ s, s = signW n2 ys := ⟨_, rfl⟩
    obtain ⟨s3, hs3e⟩ : ∃ s, s = signW rn rs := ⟨_, rfl⟩
    rw [← hs1e] at hs1 HSG1
    rw [← hs2e] at hs2 HSG2
    rw [← hs3e] at HSG3
    have HRM := Lib.hid (And.intro hbr (And.intro hvr (And.intro hrn (And.intro hO (And.intro hs3e hyp)))))
    have C6b := Lib.hid (C4.out.trans (C6.out.1.mono hw4))
    have hw6 : w4.heap.size + 2 ≤ w6.heap.size := C6.out.2
    clear hbr hvr hrn hO hs1e hs2e hs3e hyp HQR
    cases n1 <;> cases n2
    · go_wp2_with fail
      refine HSG1.out.mono ?_
      rintro e w' ⟨rfl, rfl⟩
      go_wp2_with fail
      refine HSG2.out.mono ?_
      rintro e w' ⟨rfl, rfl⟩
      have HMB := Lib.hid (make_bigint _ (w4.heap.size + 1) rn rs w6 HRM.out.1)
      have HVAL := Lib.hid (show valI rn rs = R from (by rw [HRM.out.2.2.1, valI_rem, HRM.out.2.1, HFL.out, flr_same]; rfl))
      go_wp2_with fail
      refine HMB.out.mono ?_
      rw [HVAL.out]
      rintro e w8 ⟨v8, rfl, hsi, hb8⟩
      obtain ⟨x8, p8, hv8⟩ := si_fin (w' := w8) hsi
      subst hv8
      have C8 := Lib.hid (C6b.out.trans (hb8.mono (by omega)))
      have HS8 := Lib.hid (hsi.base (C := w.heap.size + 1 + 1 + 1) (by omega))
      obtain ⟨e0, e1, f0, f1⟩ := blk2 (six_cells C8.out).2.1
      clear hsi hb8 HMB
      go_wp2
      refine bodyPost_ret (v := .agg #[.int .i64 x8, .pointer p8]) (by simp [results, Tryz.results19, go_sem, e0, e1]) rfl (mod_fin HS8.out (six_cells C8.out).2.2.2)
    · rcases List.eq_nil_or_concat rs with h0 | ⟨ri, rl, h0⟩
      · have hq3 : (s3 != 0) = false := by rw [HRM.out.2.2.2.2.1, h0]; simp [signW]
        have H0 := Lib.hid h0
        clear h0
        go_wp2_with fail
        refine HSG1.out.mono ?_
        rintro e w' ⟨rfl, rfl⟩
        go_wp2_with fail
        refine HSG2.out.mono ?_
        rintro e w' ⟨rfl, rfl⟩
        go_wp2_with fail
        refine HSG3.out.mono ?_
        rintro e w' ⟨rfl, rfl⟩
        have HMB := Lib.hid (make_bigint _ (w4.heap.size + 1) rn rs w6 HRM.out.1)
        have HVAL := Lib.hid (show valI rn rs = R from (by have h2 := HRM.out.2.1; rw [H0.out] at h2; rw [HRM.out.2.2.1, valI_rem, HFL.out, H0.out]; rw [show flr false true (valW xs) (valW ys) = 0 from flr_zero true _ _ h2.symm]; rfl))
        go_wp2_with fail
        refine HMB.out.mono ?_
        rw [HVAL.out]
        rintro e w8 ⟨v8, rfl, hsi, hb8⟩
        obtain ⟨x8, p8, hv8⟩ := si_fin (w' := w8) hsi
        subst hv8
        have C8 := Lib.hid (C6b.out.trans (hb8.mono (by omega)))
        have HS8 := Lib.hid (hsi.base (C := w.heap.size + 1 + 1 + 1) (by omega))
        obtain ⟨e0, e1, f0, f1⟩ := blk2 (six_cells C8.out).2.1
        clear hsi hb8 HMB
        go_wp2
        refine bodyPost_ret (v := .agg #[.int .i64 x8, .pointer p8]) (by simp [results, Tryz.results19, go_sem, e0, e1]) rfl (mod_fin HS8.out (six_cells C8.out).2.2.2)
      · have hne : rs ≠ [] := by rw [h0]; simp
        have hrn : rn = false := by rw [HRM.out.2.2.1, h0]; simp
        have hq3 : (s3 != 0) = true := by rw [HRM.out.2.2.2.2.1, h0]; simp [signW]; try split <;> simp
        have HNE := Lib.hid hne
        clear h0 hne
        subst hrn
        have HLT : Hid (valW rs < valW ys) := by unfold Hid; rw [HRM.out.2.1]; exact Nat.mod_lt _ HRM.out.2.2.2.2.2
        have HNZ : Hid (valW xs % valW ys ≠ 0) := fun h => by
          have h2 := HRM.out.2.1
          have h3 := topNZ_ge (by obtain ⟨_, _, _, h, _⟩ := HRM.out.1; exact h) HNE.out
          have h4 : 0 < W64 ^ (rs.length - 1) := Nat.pow_pos W64_pos
          omega
        have HAD := Lib.hid (add_made HB2.out HRM.out.1 HRM.out.2.2.2.1 (by decide) HNE.out HLT.out)
        go_wp2_with fail
        refine HSG1.out.mono ?_
        rintro e w' ⟨rfl, rfl⟩
        go_wp2_with fail
        refine HSG2.out.mono ?_
        rintro e w' ⟨rfl, rfl⟩
        go_wp2_with fail
        refine HSG3.out.mono ?_
        rintro e w' ⟨rfl, rfl⟩
        go_wp2_with fail
        refine HAD.out.mono ?_
        rintro e w7 ⟨ws, rfl, hbw, hvw, hOw⟩
        have HBW := Lib.hid (And.intro hbw hvw)
        have hsz2 : (two0 w4).heap.size = w4.heap.size + 2 := by simp [two0]
        have C7 := Lib.hid (C6b.out.trans (hOw.to_below (B := w.heap.size + 1 + 1 + 1) (by omega) (fun k _ e => by omega)))
        have hw7 : w6.heap.size ≤ w7.heap.size := hOw.size
        clear hbw hvw hOw HAD
        have HMB := Lib.hid (make_bigint _ (w4.heap.size + 1) (!false) ws w7 HBW.out.1)
        have HVAL := Lib.hid (show valI (!false) ws = R from (by rw [valI_sg, HBW.out.2, HRM.out.2.1, HFL.out]; exact (flr_apart true _ _ HNZ.out).symm))
        go_wp2_with fail
        refine HMB.out.mono ?_
        rw [HVAL.out]
        rintro e w8 ⟨v8, rfl, hsi, hb8⟩
        obtain ⟨x8, p8, hv8⟩ := si_fin (w' := w8) hsi
        subst hv8
        have C8 := Lib.hid (C7.out.trans (hb8.mono (by omega)))
        have HS8 := Lib.hid (hsi.base (C := w.heap.size + 1 + 1 + 1) (by omega))
        obtain ⟨e0, e1, f0, f1⟩ := blk2 (six_cells C8.out).2.1
        clear hsi hb8 HMB
        go_wp2
        refine bodyPost_ret (v := .agg #[.int .i64 x8, .pointer p8]) (by simp [results, Tryz.results19, go_sem, e0, e1]) rfl (mod_fin HS8.out (six_cells C8.out).2.2.2)
    · rcases List.eq_nil_or_concat rs with h0 | ⟨ri, rl, h0⟩
      · have hq3 : (s3 != 0) = false := by rw [HRM.out.2.2.2.2.1, h0]; simp [signW]
        have H0 := Lib.hid h0
        clear h0
        go_wp2_with fail
        refine HSG1.out.mono ?_
        rintro e w' ⟨rfl, rfl⟩
        go_wp2_with fail
        refine HSG2.out.mono ?_
        rintro e w' ⟨rfl, rfl⟩
        go_wp2_with fail
        refine HSG3.out.mono ?_
        rintro e w' ⟨rfl, rfl⟩
        have HMB := Lib.hid (make_bigint _ (w4.heap.size + 1) rn rs w6 HRM.out.1)
        have HVAL := Lib.hid (show valI rn rs = R from (by have h2 := HRM.out.2.1; rw [H0.out] at h2; rw [HRM.out.2.2.1, valI_rem, HFL.out, H0.out]; rw [show flr true false (valW xs) (valW ys) = 0 from flr_zero false _ _ h2.symm]; rfl))
        go_wp2_with fail
        refine HMB.out.mono ?_
        rw [HVAL.out]
        rintro e w8 ⟨v8, rfl, hsi, hb8⟩
        obtain ⟨x8, p8, hv8⟩ := si_fin (w' := w8) hsi
        subst hv8
        have C8 := Lib.hid (C6b.out.trans (hb8.mono (by omega)))
        have HS8 := Lib.hid (hsi.base (C := w.heap.size + 1 + 1 + 1) (by omega))
        obtain ⟨e0, e1, f0, f1⟩ := blk2 (six_cells C8.out).2.1
        clear hsi hb8 HMB
        go_wp2
        refine bodyPost_ret (v := .agg #[.int .i64 x8, .pointer p8]) (by simp [results, Tryz.results19, go_sem, e0, e1]) rfl (mod_fin HS8.out (six_cells C8.out).2.2.2)
      · have hne : rs ≠ [] := by rw [h0]; simp
        have hrn : rn = true := by rw [HRM.out.2.2.1, h0]; simp
        have hq3 : (s3 != 0) = true := by rw [HRM.out.2.2.2.2.1, h0]; simp [signW]; try split <;> simp
        have HNE := Lib.hid hne
        clear h0 hne
        subst hrn
        have HLT : Hid (valW rs < valW ys) := by unfold Hid; rw [HRM.out.2.1]; exact Nat.mod_lt _ HRM.out.2.2.2.2.2
        have HNZ : Hid (valW xs % valW ys ≠ 0) := fun h => by
          have h2 := HRM.out.2.1
          have h3 := topNZ_ge (by obtain ⟨_, _, _, h, _⟩ := HRM.out.1; exact h) HNE.out
          have h4 : 0 < W64 ^ (rs.length - 1) := Nat.pow_pos W64_pos
          omega
        have HAD := Lib.hid (add_made HB2.out HRM.out.1 HRM.out.2.2.2.1 (by decide) HNE.out HLT.out)
        go_wp2_with fail
        refine HSG1.out.mono ?_
        rintro e w' ⟨rfl, rfl⟩
        go_wp2_with fail
        refine HSG2.out.mono ?_
        rintro e w' ⟨rfl, rfl⟩
        go_wp2_with fail
        refine HSG3.out.mono ?_
        rintro e w' ⟨rfl, rfl⟩
        go_wp2_with fail
        refine HAD.out.mono ?_
        rintro e w7 ⟨ws, rfl, hbw, hvw, hOw⟩
        have HBW := Lib.hid (And.intro hbw hvw)
        have hsz2 : (two0 w4).heap.size = w4.heap.size + 2 := by simp [two0]
        have C7 := Lib.hid (C6b.out.trans (hOw.to_below (B := w.heap.size + 1 + 1 + 1) (by omega) (fun k _ e => by omega)))
        have hw7 : w6.heap.size ≤ w7.heap.size := hOw.size
        clear hbw hvw hOw HAD
        have HMB := Lib.hid (make_bigint _ (w4.heap.size + 1) (!true) ws w7 HBW.out.1)
        have HVAL := Lib.hid (show valI (!true) ws = R from (by rw [valI_sg, HBW.out.2, HRM.out.2.1, HFL.out]; exact (flr_apart false _ _ HNZ.out).symm))
        go_wp2_with fail
        refine HMB.out.mono ?_
        rw [HVAL.out]
        rintro e w8 ⟨v8, rfl, hsi, hb8⟩
        obtain ⟨x8, p8, hv8⟩ := si_fin (w' := w8) hsi
        subst hv8
        have C8 := Lib.hid (C7.out.trans (hb8.mono (by omega)))
        have HS8 := Lib.hid (hsi.base (C := w.heap.size + 1 + 1 + 1) (by omega))
        obtain ⟨e0, e1, f0, f1⟩ := blk2 (six_cells C8.out).2.1
        clear hsi hb8 HMB
        go_wp2
        refine bodyPost_ret (v := .agg #[.int .i64 x8, .pointer p8]) (by simp [results, Tryz.results19, go_sem, e0, e1]) rfl (mod_fin HS8.out (six_cells C8.out).2.2.2)
    · go_wp2_with fail
      refine HSG1.out.mono ?_
      rintro e w' ⟨rfl, rfl⟩
      go_wp2_with fail
      refine HSG2.out.mono ?_
      rintro e w' ⟨rfl, rfl⟩
      have HMB := Lib.hid (make_bigint _ (w4.heap.size + 1) rn rs w6 HRM.out.1)
      have HVAL := Lib.hid (show valI rn rs = R from (by rw [HRM.out.2.2.1, valI_rem, HRM.out.2.1, HFL.out, flr_same]; rfl))
      go_wp2_with fail
      refine HMB.out.mono ?_
      rw [HVAL.out]
      rintro e w8 ⟨v8, rfl, hsi, hb8⟩
      obtain ⟨x8, p8, hv8⟩ := si_fin (w' := w8) hsi
      subst hv8
      have C8 := Lib.hid (C6b.out.trans (hb8.mono (by omega)))
      have HS8 := Lib.hid (hsi.base (C := w.heap.size + 1 + 1 + 1) (by omega))
      obtain ⟨e0, e1, f0, f1⟩ := blk2 (six_cells C8.out).2.1
      clear hsi hb8 HMB
      go_wp2
      refine bodyPost_ret (v := .agg #[.int .i64 x8, .pointer p8]) (by simp [results, Tryz.results19, go_sem, e0, e1]) rfl (mod_fin HS8.out (six_cells C8.out).2.2.2)
end Go.Proofs.YtndeolcamgnmdaaGreatDoor
