/- A natural divided by a natural. -/
import Derived.Test.YtndeolcamgnmdaaGreatDoorDivLg
import Derived.Test.YtndeolcamgnmdaaGreatDoorModBaseF
set_option linter.unusedVariables false
set_option linter.unusedSimpArgs false
set_option linter.unnecessarySimpa false
namespace Go.Proofs.YtndeolcamgnmdaaGreatDoor
open Go.RowKit
theorem cmpRev_val : ∀ {xs ys : List Nat}, xs.length = ys.length → (∀ x ∈ xs, x < W64) → (∀ y ∈ ys, y < W64) → (cmpRev xs ys < 0 ↔ valW xs < valW ys) ∧ (cmpRev xs ys = 0 ↔ valW xs = valW ys)
  | [], [], _, _, _ => by simp [cmpRev]
  | [], _ :: _, h, _, _ => by simp at h
  | _ :: _, [], h, _, _ => by simp at h
  | x :: r, y :: t, h, hx, hy => by
    have hl : r.length = t.length := by simpa using h
    obtain ⟨i1, i2⟩ := cmpRev_val hl (fun z hz => hx z (by simp [hz])) (fun z hz => hy z (by simp [hz]))
    have hxb : x < W64 := hx x (by simp)
    have hyb : y < W64 := hy y (by simp)
    simp only [cmpRev, valW]
    by_cases h0 : cmpRev r t = 0
    · rw [if_pos h0]
      have e := i2.1 h0
      rw [e]
      by_cases h1 : x < y
      · rw [if_pos h1]; omega
      · rw [if_neg h1]
        by_cases h2 : y < x
        · rw [if_pos h2]; omega
        · rw [if_neg h2]; omega
    · rw [if_neg h0]
      have hne : valW r ≠ valW t := fun e => h0 (i2.2 e)
      rcases Nat.lt_or_ge (valW r) (valW t) with h1 | h1
      · have h2 : W64 * (valW r + 1) ≤ W64 * valW t := Nat.mul_le_mul_left _ h1
        rw [Nat.mul_add] at h2
        have h3 := i1.2 h1
        omega
      · have h2 : W64 * (valW t + 1) ≤ W64 * valW r := Nat.mul_le_mul_left _ (by omega)
        rw [Nat.mul_add] at h2
        have h3 : ¬ cmpRev r t < 0 := fun h => by have := i1.1 h; omega
        omega
theorem topNZ_ge {ws : List Nat} (ht : TopNZ ws) (h0 : ws ≠ []) : W64 ^ (ws.length - 1) ≤ valW ws := by
  obtain ⟨init, last, rfl⟩ : ∃ init last, ws = init ++ [last] := ⟨ws.dropLast, ws.getLast h0, (List.dropLast_concat_getLast h0).symm⟩
  have hl0 : last ≠ 0 := by unfold TopNZ at ht; simpa using ht
  have h1 := valW_top init last hl0
  simpa using h1
theorem len_val {xs ys : List Nat} (hx : ∀ x ∈ xs, x < W64) (ty : TopNZ ys) (h : xs.length < ys.length) : valW xs < valW ys := by
  have h1 := valW_lt xs hx
  have h2 := topNZ_ge ty (fun e => by rw [e] at h; simp at h)
  have h3 : W64 ^ xs.length ≤ W64 ^ (ys.length - 1) := Nat.pow_le_pow_right W64_pos (by omega)
  omega
theorem cmpN_val {xs ys : List Nat} (hx : ∀ x ∈ xs, x < W64) (hy : ∀ y ∈ ys, y < W64) (tx : TopNZ xs) (ty : TopNZ ys) : (cmpN xs ys < 0 ↔ valW xs < valW ys) := by
  unfold cmpN
  by_cases h1 : xs.length < ys.length
  · rw [if_pos h1]
    have := len_val hx ty h1
    constructor
    · intro _; exact this
    · intro _; decide
  · rw [if_neg h1]
    by_cases h2 : ys.length < xs.length
    · rw [if_pos h2]
      have := len_val hy tx h2
      constructor
      · intro h; exact absurd h (by decide)
      · intro h; omega
    · rw [if_neg h2]
      exact (cmpRev_val (by omega) hx hy).1
theorem get_stack (w : World) : Calls Tryz.prog 55 #[] w fun e w' => e = .returned (.pointer (some ⟨w.heap.size, 0, none⟩)) ∧ w' = w.alloc (.cells #[.pointer none] 101) := by
  go_enter Tryz.func55, Tryz.ntmps55
  go_wp2
  go_ret
  exact ⟨rfl, rfl⟩
def NDRest (R : Nat) (w : World) (vq vr : Value) (w' : World) : Prop :=
  ∃ qs rs, OW w' w.heap.size vq qs ∧ OW w' w.heap.size vr rs ∧ qs.length ≤ 1000 ∧ rs.length ≤ 1000 ∧ TopNZ rs ∧ valW rs = R ∧ Below w.heap.size w w'
def NDPost (R : Nat) (w : World) (e : Ending) (w' : World) : Prop := ∃ vq vr, e = .returned (.tuple #[vq, vr]) ∧ NDRest R w vq vr w'
set_option maxRecDepth 20000 in
set_option maxHeartbeats 4000000 in
theorem div_one (Bx By gy cy y : Nat) (uv : Value) (us : List Nat) (w : World) (hx : OW w Bx uv us) (hy : OW w By (.slice (some ⟨gy, 0, none⟩) 1 cy) [y]) (hul : us.length ≤ 48) (hy0 : 0 < y) :
    Calls Tryz.prog 43 #[.slice none 0 0, .pointer none, .slice none 0 0, uv, .slice (some ⟨gy, 0, none⟩) 1 cy] w (NDPost (valW us % y) w) := by
  have hyW : y < W64 := hy.2 y (by simp)
  have cy0 := hy.cell 0 (by simp)
  simp only [List.getElem_cons_zero] at cy0
  have HD := Lib.hid (div_w Bx uv us y w hx (by omega) hy0 hyW)
  have hR : valW us % y < W64 := Nat.lt_trans (Nat.mod_lt _ hy0) hyW
  obtain ⟨R, hRe⟩ : ∃ R, R = valW us % y := ⟨_, rfl⟩
  rw [← hRe] at HD hR ⊢
  have HS := Lib.hid (fun W => set_word R hR W)
  obtain ⟨a, c, hv⟩ := hx.shape
  subst hv
  clear hx hy hul hy0 hyW hR hRe
  go_enter_defers Tryz.func43, Tryz.ntmps43
  go_wp2_with fail
  refine HD.out.mono ?_
  rintro e w1 ⟨vq, qs, rfl, hq, hql, hb1⟩
  have H1 := Lib.hid (And.intro hq (And.intro hql hb1))
  clear hq hql hb1
  go_wp2_with fail
  refine (HS.out _).mono ?_
  rintro e w2 ⟨vr, rs, rfl, hr, hv, ht, hrl, hb2⟩
  have H2 := Lib.hid (show NDRest R w vq vr w2 from ⟨qs, rs, H1.out.1.below hb2, hr.base H1.out.2.2.size, H1.out.2.1, by omega, ht, hv, H1.out.2.2.trans (hb2.mono H1.out.2.2.size)⟩)
  clear hr hv ht hrl hb2
  go_wp2
  exact ⟨_, results_tmp2 rfl _ _ _, vq, vr, rfl, H2.out⟩
set_option maxRecDepth 20000 in
set_option maxHeartbeats 4000000 in
theorem div_less (Bx By n : Nat) (uv vv : Value) (us vs : List Nat) (w : World) (hx : OW w Bx uv us) (hy : OW w By vv vs) (hul : us.length ≤ 48) (hn : vs.length = n) (hn2 : 2 ≤ n) (hn3 : n ≤ 1000) (tx : TopNZ us) (ty : TopNZ vs) (hlt : valW us < valW vs) :
    Calls Tryz.prog 43 #[.slice none 0 0, .pointer none, .slice none 0 0, uv, vv] w (NDPost (valW us) w) := by
  have HC := Lib.hid (nat_cmp Bx By uv vv us vs w hx hy (by omega) (by omega))
  have hc := (cmpN_val hx.2 hy.2 tx ty).2 hlt
  obtain ⟨r, hr⟩ : ∃ r, r = cmpN us vs := ⟨_, rfl⟩
  rw [← hr] at HC hc
  have hd : decide (r < 0) = true := by simp; exact hc
  have hn0 : ((n : Int) == 0) = false := by rw [beq_eq_false_iff_ne]; omega
  have hn1 : ((n : Int) == 1) = false := by rw [beq_eq_false_iff_ne]; omega
  have HX := Lib.hid (And.intro hx (And.intro hul tx))
  obtain ⟨a, c, hv⟩ := hx.shape
  obtain ⟨b, d, hv2⟩ := hy.shape
  rw [hn] at hv2
  subst hv hv2
  have hsl := fun W => nat_nil0 W
  clear hx hy hul tx ty hlt hr hc
  go_enter_defers Tryz.func43, Tryz.ntmps43
  go_wp2_with fail
  refine HC.out.mono ?_
  rintro e w1 ⟨rfl, q, rfl⟩
  have HS := Lib.hid (nat_set Bx _ us (w.drewN q) (HX.out.1.below (below_dn (Below.refl _ w) q)) (by have := HX.out.2.1; omega))
  go_wp2_with fail
  refine HS.out.mono ?_
  rintro e w2 ⟨vr, rfl, how, hb⟩
  have H2 := Lib.hid (show NDRest (valW us) w (.slice none 0 0) vr w2 from ⟨[], us, ow_nil _ _, how, by simp, by have := HX.out.2.1; omega, HX.out.2.2, rfl, (below_dn (Below.refl _ w) q).trans hb⟩)
  clear how hb HS
  go_wp2
  exact ⟨_, results_tmp2 rfl _ _ _, .slice none 0 0, vr, rfl, H2.out⟩
set_option maxRecDepth 20000 in
set_option maxHeartbeats 4000000 in
theorem div_long (Bx By gx gy nu n cx cy : Nat) (us vs : List Nat) (w : World) (hx : OW w Bx (.slice (some ⟨gx, 0, none⟩) nu cx) us) (hy : OW w By (.slice (some ⟨gy, 0, none⟩) n cy) vs) (hnu : nu ≤ 48) (hn2 : 2 ≤ n) (hn3 : n < 40) (tx : TopNZ us) (ty : TopNZ vs) (hle : valW vs ≤ valW us) (hT : Thr w) :
    Calls Tryz.prog 43 #[.slice none 0 0, .pointer none, .slice none 0 0, .slice (some ⟨gx, 0, none⟩) nu cx, .slice (some ⟨gy, 0, none⟩) n cy] w (NDPost (valW us % valW vs) w) := by
  have hxl := hx.len
  have hyl := hy.len
  have HC := Lib.hid (nat_cmp Bx By _ _ us vs w hx hy (by omega) (by omega))
  have hc : ¬ cmpN us vs < 0 := fun h => by have := (cmpN_val hx.2 hy.2 tx ty).1 h; omega
  have hnn : n ≤ nu := by
    rcases Nat.lt_or_ge nu n with h | h
    · have := len_val hx.2 ty (show us.length < vs.length by omega)
      omega
    · exact h
  obtain ⟨r, hr⟩ : ∃ r, r = cmpN us vs := ⟨_, rfl⟩
  rw [← hr] at HC hc
  have hd : decide (r < 0) = false := by simp; omega
  have hn0 : ((n : Int) == 0) = false := by rw [beq_eq_false_iff_ne]; omega
  have hn1 : ((n : Int) == 1) = false := by rw [beq_eq_false_iff_ne]; omega
  obtain ⟨d, hdv⟩ : ∃ d, vs[n - 1]? = some d := ⟨_, List.getElem?_eq_getElem (by omega)⟩
  have hd0 : 0 < d := by
    rcases Nat.eq_zero_or_pos d with h | h
    · exfalso
      unfold TopNZ at ty
      rw [List.getLast?_eq_getElem?, ← hyl, hdv, h] at ty
      exact ty rfl
    · exact h
  obtain ⟨R, hR⟩ : ∃ R, R = valW us % valW vs := ⟨_, rfl⟩
  rw [← hR]
  have hgx := hx.rowB.lt
  have hgy := hy.rowB.lt
  have HLG : Hid (∀ q, Calls Tryz.prog 57 #[.slice none 0 0, .pointer (some ⟨w.heap.size, 0, none⟩), .slice none 0 0, .slice (some ⟨gx, 0, none⟩) nu cx, .slice (some ⟨gy, 0, none⟩) n cy] ((w.drewN q).alloc (.cells #[.pointer none] 101)) (DivLPost w.heap.size R w.heap.size ((w.drewN q).alloc (.cells #[.pointer none] 101)))) := fun q => by
    have hb : Below w.heap.size w ((w.drewN q).alloc (.cells #[.pointer none] 101)) := (below_dn (Below.refl _ w) q).alloc (Nat.le_refl _) _
    rw [hR]
    exact div_large w.heap.size w.heap.size gx nu cx gy n cy Bx By d us vs _ (hx.below hb) (hy.below hb) hn2 hnn hn3 hnu hdv hd0 (.inl ⟨rfl, Blk.new (w.drewN q) 101 _, rfl⟩) (Nat.le_refl _) (by simp) (hT.below hb hT.lt) hT.lt (by omega) (by omega)
  have HBQ : Hid (∀ q, Below w.heap.size w ((w.drewN q).alloc (.cells #[.pointer none] 101))) := fun q => (below_dn (Below.refl _ w) q).alloc (Nat.le_refl _) _
  clear hx hy hxl hyl tx ty hle hT hr hc hdv hd0 hR hgx hgy
  go_enter_defers Tryz.func43, Tryz.ntmps43
  go_wp2_with fail
  refine HC.out.mono ?_
  rintro e w1 ⟨rfl, q, rfl⟩
  have HL := Lib.hid (HLG.out q)
  have HB := Lib.hid (HBQ.out q)
  clear HLG HBQ HC
  go_wp2_with fail
  refine (get_stack _).mono ?_
  rintro e w2 ⟨rfl, rfl⟩
  rw [show (w.drewN q).heap.size = w.heap.size from rfl]
  go_wp2_with fail
  refine HL.out.mono ?_
  rintro e w3 ⟨vq, vr, qs, rs, l, D, rfl, hq, hr, hql, hrl, ht, hv, hs, hD, hb⟩
  have HFR := Lib.hid (fun u => stk_free w.heap.size l D u w3 hs)
  have FIN : Hid (∀ w', Back w.heap.size 0 D w3 w' → NDRest R w vq vr w') := fun w' hB => by
    have hbw : Below w.heap.size w w3 := HB.out.trans hb
    exact ⟨qs, rs, hq.back hs hB, hr.back hs hB, hql, hrl, ht, hv, hbw.trans (hB.2.to_below hbw.size (fun k _ => by rintro ⟨gr, c0, e⟩; exact hD _ _ _ e))⟩
  clear hq hr hql hrl ht hv hs hD hb HL HB
  go_wp2
  refine leaves_cons (f := 56) (args := #[.pointer (some ⟨w.heap.size, 0, none⟩)]) (by simp) (by simp [go_sem]) ?_
  refine (HFR.out _).mono ?_
  rintro e u' w' ⟨rfl, rfl, hB⟩
  have HFI := FIN.out w' hB
  simp [Leaves, settle, results, Tryz.results43]
  exact ⟨vq, vr, rfl, HFI⟩
/-- A natural divided by a natural that is not 0. -/
theorem nat_div (Bx By : Nat) (uv vv : Value) (us vs : List Nat) (w : World) (hx : OW w Bx uv us) (hy : OW w By vv vs) (hul : us.length ≤ 48) (hvl : vs.length < 40) (tx : TopNZ us) (ty : TopNZ vs) (hv0 : 0 < valW vs) (hT : Thr w) :
    Calls Tryz.prog 43 #[.slice none 0 0, .pointer none, .slice none 0 0, uv, vv] w (NDPost (valW us % valW vs) w) := by
  rcases hy.form with ⟨_, h⟩ | ⟨gy, cy, rfl, _, _, _, _⟩
  · rw [h] at hv0; simp [valW] at hv0
  rcases Nat.lt_or_ge vs.length 2 with h2 | h2
  · obtain ⟨y, rfl⟩ : ∃ y, vs = [y] := by
      match vs, h2 with
      | [], _ => simp [valW] at hv0
      | [y], _ => exact ⟨y, rfl⟩
    have hy0 : 0 < y := by simpa [valW] using hv0
    have h := div_one Bx By gy cy y uv us w hx hy hul hy0
    simpa [valW] using h
  · by_cases hlt : valW us < valW vs
    · rw [Nat.mod_eq_of_lt hlt]
      exact div_less Bx By vs.length uv _ us vs w hx hy hul rfl h2 (by omega) tx ty hlt
    · rcases hx.form with ⟨_, h⟩ | ⟨gx, cx, rfl, _, _, _, _⟩
      · rw [h] at hlt; simp [valW] at hlt; omega
      · exact div_long Bx By gx gy us.length vs.length cx cy us vs w hx hy hul h2 hvl tx ty (by omega) hT
end Go.Proofs.YtndeolcamgnmdaaGreatDoor
