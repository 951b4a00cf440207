/- Joined texts: DivPlain, BitDiv, PosOps, MulPlain, MulW, LshW, PosShift, SCmp, Nearest, SubNil, NearZ. -/
import Derived.Test.YtndeolcamgnmdaaDig
import Derived.Test.YtndeolcamgnmdaaSpecNot
import Derived.Deep.LoopGhost
import Derived.Deep.DeepCutAuto
import Derived.IntWalk
import Derived.Deep.QuietTactic
import Derived.BigQuiet
import Derived.Test.YtndeolcamgnmdaaOrdFull
import Derived.Test.YtndeolcamgnmdaaSpecSign
import Derived.Test.YtndeolcamgnmdaaInfW
namespace Go.Proofs.Ytndeolcamgnmdaa
theorem div_half (A i : Nat) : A / 2 ^ i = 2 * (A / 2 ^ (i + 1)) + bitAt A i := by
  unfold bitAt
  rw [Nat.pow_succ, ← Nat.div_div_eq_div_mul]
  omega
/-- One step of a division, bit by bit. -/
theorem div_step (A B i : Nat) (hB : 0 < B) :
    2 * ((A / 2 ^ (i + 1)) % B) + bitAt A i < 2 * B ∧
    (B ≤ 2 * ((A / 2 ^ (i + 1)) % B) + bitAt A i → (A / 2 ^ i) % B = 2 * ((A / 2 ^ (i + 1)) % B) + bitAt A i - B ∧ (A / 2 ^ i) / B = 2 * ((A / 2 ^ (i + 1)) / B) + 1) ∧
    (2 * ((A / 2 ^ (i + 1)) % B) + bitAt A i < B → (A / 2 ^ i) % B = 2 * ((A / 2 ^ (i + 1)) % B) + bitAt A i ∧ (A / 2 ^ i) / B = 2 * ((A / 2 ^ (i + 1)) / B)) := by
  rw [div_half A i]
  have hb : bitAt A i < 2 := by unfold bitAt; omega
  generalize bitAt A i = b at hb
  generalize A / 2 ^ (i + 1) = M
  have hr := Nat.mod_lt M hB
  have hm := Nat.div_add_mod M B
  generalize hR : M % B = R at hr hm
  generalize hQ : M / B = Q at hm
  have e : 2 * M + b = B * (2 * Q) + (2 * R + b) := by
    rw [← hm]
    have : B * (2 * Q) = 2 * (B * Q) := by rw [← Nat.mul_assoc, Nat.mul_comm B 2, Nat.mul_assoc]
    omega
  refine ⟨by omega, fun h => ?_, fun h => ?_⟩
  · have e2 : 2 * M + b = (2 * R + b - B) + B * (2 * Q + 1) := by
      rw [e, Nat.mul_add]; omega
    rw [e2]
    exact ⟨by rw [Nat.add_mul_mod_self_left]; exact Nat.mod_eq_of_lt (by omega), by rw [Nat.add_mul_div_left _ _ hB, Nat.div_eq_of_lt (by omega)]; omega⟩
  · have e2 : 2 * M + b = (2 * R + b) + B * (2 * Q) := by rw [e]; omega
    rw [e2]
    exact ⟨by rw [Nat.add_mul_mod_self_left]; exact Nat.mod_eq_of_lt (by omega), by rw [Nat.add_mul_div_left _ _ hB, Nat.div_eq_of_lt (by omega)]; omega⟩
theorem natOf_put : ∀ (ws : List Nat) (i x : Nat) (h : i < ws.length), natOf (ws.set i x) + (ws[i]'h) * 256 ^ (ws.length - 1 - i) = natOf ws + x * 256 ^ (ws.length - 1 - i)
  | [], i, x, h => by simp at h
  | y :: r, 0, x, h => by
    simp [natOf]
    omega
  | y :: r, i + 1, x, h => by
    have := natOf_put r i x (by simpa using h)
    simp only [List.set_cons_succ, natOf, List.length_set, List.length_cons, List.getElem_cons_succ]
    rw [show r.length + 1 - 1 - (i + 1) = r.length - 1 - i by omega]
    omega
/-- A bit put into a byte whose bits up to there are 0. -/
theorem or_bit (x k : Nat) (hx : x < 256) (hk : k < 8) (h0 : x % 2 ^ (k + 1) = 0) : x ||| 2 ^ k = x + 2 ^ k ∧ x + 2 ^ k < 256 := by
  have hall : ∀ k : Fin 8, ∀ x : Fin 256, x.val % 2 ^ (k.val + 1) = 0 → x.val ||| 2 ^ k.val = x.val + 2 ^ k.val ∧ x.val + 2 ^ k.val < 256 := by decide +kernel
  exact hall ⟨k, hk⟩ ⟨x, hx⟩ h0
/-- The byte of a number whose bits up to i are 0. -/
theorem dig_low0 (q i : Nat) : dig (q * 2 ^ (i + 1)) (i / 8) % 2 ^ (i % 8 + 1) = 0 := by
  unfold dig
  have e : (256 : Nat) ^ (i / 8) = 2 ^ (8 * (i / 8)) := by rw [Nat.pow_mul]
  have h1 : 2 ^ (i + 1) = 2 ^ (i % 8 + 1) * 2 ^ (8 * (i / 8)) := by rw [← Nat.pow_add]; congr 1; omega
  rw [e, h1, ← Nat.mul_assoc, Nat.mul_div_cancel _ (Nat.pow_pos (by omega))]
  have h2 : i % 8 < 8 := Nat.mod_lt _ (by omega)
  generalize i % 8 = k at h2
  have h3 : 256 = 2 ^ (k + 1) * 2 ^ (7 - k) := by rw [← Nat.pow_add, show k + 1 + (7 - k) = 8 by omega]
  rw [h3, Nat.mod_mul_right_mod, Nat.mul_mod_left]
/-- The quotient's bytes with one more bit. -/
theorem quo_put (ql : List Nat) (q i n : Nat) (hb : ∀ x ∈ ql, x < 256) (hl : ql.length = n) (hi : i < 8 * n) (hq : natOf ql = q * 2 ^ (i + 1)) (hj : n - 1 - i / 8 < ql.length) :
    (ql[n - 1 - i / 8]'hj) % 2 ^ (i % 8 + 1) = 0 ∧ natOf (ql.set (n - 1 - i / 8) (ql[n - 1 - i / 8]'hj + 2 ^ (i % 8))) = (2 * q + 1) * 2 ^ i := by
  have hd := dig_at ql (i / 8) hb (n - 1 - i / 8) hj (by omega)
  refine ⟨?_, ?_⟩
  · rw [← hd, hq]
    exact dig_low0 q i
  · have hp := natOf_put ql (n - 1 - i / 8) (ql[n - 1 - i / 8]'hj + 2 ^ (i % 8)) hj
    rw [hl, show n - 1 - (n - 1 - i / 8) = i / 8 by omega, Nat.add_mul] at hp
    have e : 2 ^ (i % 8) * 256 ^ (i / 8) = 2 ^ i := by
      rw [show (256 : Nat) = 2 ^ 8 by rfl, ← Nat.pow_mul, ← Nat.pow_add]
      congr 1
      omega
    rw [e, hq] at hp
    have e2 : q * 2 ^ (i + 1) = 2 * q * 2 ^ i := by rw [Nat.pow_succ, Nat.mul_comm (2 ^ i) 2, ← Nat.mul_assoc, Nat.mul_comm q 2]
    rw [Nat.add_mul, Nat.one_mul, ← e2]
    omega
end Go.Proofs.Ytndeolcamgnmdaa
namespace Go.Proofs.Ytndeolcamgnmdaa
open Go.RowKit
attribute [local go_sem ↓] Go.wp_at_zero Go.wp_at_succ
theorem ob_one (w : World) (x : Nat) (hx : x < 256) : OB (w.alloc (.cells #[.int .u8 (x : Int)] 5)) w.heap.size (.slice (some ⟨w.heap.size, 0, none⟩) 1 1) [x] :=
  ⟨⟨rfl, .inr ⟨w.heap.size, 1, _, rfl, Nat.le_refl _, heap_alloc_new w _, Nat.le_refl _, by unfold maxLen; omega, rfl, rfl⟩⟩, by simp, by intro y hy; simp at hy; omega⟩
theorem head_nat {l : List Nat} (hh : l.head? ≠ some 0) {k : Nat} (hb : natOf l < 256 ^ k) : l.length ≤ k := natOf_lenle hh k hb
theorem or8 (x k : Nat) (hx : x < 256) (hk : k < 8) (h0 : x % 2 ^ (k + 1) = 0) : bits .or .u8 (x : Int) ((2 : Int) ^ k % 256) = ((x + 2 ^ k : Nat) : Int) := by
  have hall : ∀ k : Fin 8, ∀ x : Fin 256, x.val % 2 ^ (k.val + 1) = 0 → bits .or .u8 ((x.val : Nat) : Int) ((2 : Int) ^ k.val % 256) = ((x.val + 2 ^ k.val : Nat) : Int) := by decide +kernel
  exact hall ⟨k, hk⟩ ⟨x, hx⟩ h0
theorem one_only' (w : World) (g j : Nat) (u : Value) : Only (· = g) w (w.setCell ⟨g, j, none⟩ u) := (Only.refl (fun x => x = g) w).setCell (p := ⟨g, j, none⟩) (.inl (rfl : g = g)) u
/-- What a division has so far: the quotient's bytes, what is left. -/
def DRel (w : World) (m1 A Bn k : Nat) (lv : Value) (wr : World) : Prop :=
  ∃ ll ql, OB wr (w.heap.size + 1) lv ll ∧ ll.head? ≠ some 0 ∧ natOf ll = (A / 2 ^ k) % Bn ∧ OB wr w.heap.size (.slice (some ⟨w.heap.size, 0, none⟩) m1 m1) ql ∧ ql.length = m1 ∧ natOf ql = (A / 2 ^ k) / Bn * 2 ^ k ∧ Below w.heap.size w wr
/-- Within a round: what is left, doubled, with the next bit. -/
def DMid (w : World) (m1 A Bn i : Nat) (lv : Value) (wr : World) : Prop :=
  ∃ ll ql, OB wr (w.heap.size + 1) lv ll ∧ ll.head? ≠ some 0 ∧ natOf ll = 2 * ((A / 2 ^ (i + 1)) % Bn) + bitAt A i ∧ OB wr w.heap.size (.slice (some ⟨w.heap.size, 0, none⟩) m1 m1) ql ∧ ql.length = m1 ∧ natOf ql = (A / 2 ^ (i + 1)) / Bn * 2 ^ (i + 1) ∧ Below w.heap.size w wr
def DivPost (A Bn : Nat) (w : World) (e : Ending) (w' : World) : Prop :=
  ∃ v1 v2 l1 l2, e = .returned (.tuple #[v1, v2]) ∧ OB w' w.heap.size v1 l1 ∧ OB w' w.heap.size v2 l2 ∧ l1.head? ≠ some 0 ∧ l2.head? ≠ some 0 ∧ natOf l1 = A / Bn ∧ natOf l2 = A % Bn ∧ Below w.heap.size w w'
theorem drel_start {w W1 : World} {m1 A Bn : Nat} (hA : A < 2 ^ (8 * m1)) (hob : OB W1 w.heap.size (.slice (some ⟨w.heap.size, 0, none⟩) m1 m1) (List.replicate m1 0)) (hb : Below w.heap.size w W1) (hz : w.heap.size < W1.heap.size) :
    DRel w m1 A Bn (8 * m1) (.slice (some ⟨W1.heap.size, 0, none⟩) 0 0) (W1.alloc (.cells #[] 5)) := by
  have e : A / 2 ^ (8 * m1) = 0 := Nat.div_eq_of_lt hA
  refine ⟨[], _, ob_new W1 _ (by omega), by simp, ?_, hob.below ((Below.refl _ _).alloc (Nat.le_refl _) _), by simp, ?_, hb.alloc hb.size _⟩
  · rw [e]; simp [natOf]
  · rw [e, natOf_zeros]; simp
set_option maxRecDepth 100000 in
set_option maxHeartbeats 4000000 in
theorem spec_split (B1 B2 g1 c1 g2 c2 m1 m2 : Nat) (xs ys : List Nat) (w : World) (h1 : OB w B1 (.slice (some ⟨g1, 0, none⟩) m1 c1) xs) (h2 : OB w B2 (.slice (some ⟨g2, 0, none⟩) m2 c2) ys) (hl1 : m1 ≤ 1000) (hl2 : m2 ≤ 1000) (hy : ys.head? ≠ some 0) (h0 : 0 < natOf ys) :
    Calls Try.prog 43 #[.slice (some ⟨g1, 0, none⟩) m1 c1, .slice (some ⟨g2, 0, none⟩) m2 c2] w (DivPost (natOf xs) (natOf ys) w) := by
  have hm1 : m1 = xs.length := by obtain ⟨_, _, hv, _⟩ := h1.form; injection hv
  have hm2 : m2 = ys.length := by obtain ⟨_, _, hv, _⟩ := h2.form; injection hv
  obtain ⟨W1, hmk, hob, hbw⟩ := bytes_made m1 (by omega) w
  have hz : w.heap.size < W1.heap.size := (hob.1.lt _ rfl).2
  have hA : natOf xs < 2 ^ (8 * m1) := by rw [hm1]; exact natOf_pow2 xs h1.2.2
  have hBl : natOf ys < 256 ^ m2 := by rw [hm2]; exact natOf_lt ys h2.2.2
  obtain ⟨k0, hk0⟩ : ∃ k0 : Nat, (8 : Int) * (m1 : Int) = (k0 : Int) := ⟨8 * m1, by omega⟩
  have hk1 : k0 ≤ 8000 := by omega
  have HK0 := Lib.hid (show k0 = 8 * m1 by omega)
  have HREL := Lib.hid (drel_start (Bn := natOf ys) hA hob hbw hz)
  have H1 := Lib.hid h1
  have H2 := Lib.hid h2
  have HM1 := Lib.hid hm1
  have HY := Lib.hid hy
  have HBL := Lib.hid hBl
  have HB0 := Lib.hid h0
  obtain ⟨A, hA1⟩ : ∃ A, A = natOf xs := ⟨_, rfl⟩
  obtain ⟨Bn, hB1⟩ : ∃ Bn, Bn = natOf ys := ⟨_, rfl⟩
  have HA := Lib.hid hA1
  have HBn := Lib.hid hB1
  rw [← hA1, ← hB1] at HREL ⊢
  rw [← hB1] at HB0 HBL
  clear h1 h2 hm1 hm2 hob hbw hA hBl hy h0 hA1 hB1
  go_enter Try.func43, Try.ntmps43
  go_wp2_with fail
  go_loopg [7, 8] k0 (fun k lv iv wr => iv = .int .i64 ((k : Int) - 1) ∧ k ≤ k0 ∧ Hid (DRel w m1 A Bn k lv wr))
  case atStart => exact ⟨rfl, Nat.le_refl _, by rw [HK0.out]; exact HREL.out⟩
  case round =>
    obtain ⟨rfl, hk, hrel⟩ := hrel
    cases gk with
    | zero =>
      obtain ⟨ll, ql, h1, h2, h3, h4, h5, h6, h7⟩ := hrel.out
      rw [show (((0 : Nat) : Int) - 1) = -1 by rfl]
      have HC := Lib.hid (cut_any _ _ _ ql wr h4.bsl (by omega))
      have HL := Lib.hid h1
      have HR := Lib.hid (And.intro h2 (And.intro h3 (And.intro h6 h7)))
      clear h1 h2 h3 h4 h5 h6 h7
      go_wp2_with fail
      refine HC.out.mono ?_
      rintro e w2 ⟨v, rfl, hob2, hb2⟩
      have HO2 := Lib.hid hob2
      have HB2 := Lib.hid hb2
      clear hob2 hb2 HC
      go_wp2
      go_ret2
      obtain ⟨h2, h3, h6, h7⟩ := HR.out
      rw [Nat.pow_zero, Nat.div_one] at h3
      rw [Nat.pow_zero, Nat.div_one, Nat.mul_one] at h6
      exact ⟨v, _, _, ll, rfl, HO2.out.base h7.size, (HL.out.below HB2.out).base (by omega), strip_head ql, h2, by rw [natOf_strip, h6], h3, h7.trans (HB2.out.mono h7.size)⟩
    | succ i =>
      rw [show (((i + 1 : Nat) : Int) - 1) = (i : Int) by omega]
      obtain ⟨ll, ql, h1, h2, h3, h4, h5, h6, h7⟩ := hrel.out
      have hnn : natOf ll < Bn := by rw [h3]; exact Nat.mod_lt _ HB0.out
      have hll : ll.length ≤ m2 := head_nat h2 (Nat.lt_trans hnn HBL.out)
      obtain ⟨gl, cl, hvl, hgl1, hgl2, _, _⟩ := h1.form
      obtain ⟨n, hn⟩ : ∃ n, n = ll.length := ⟨_, rfl⟩
      rw [← hn] at hvl
      subst hvl
      have HSUM := Lib.hid (spec_sum _ _ gl cl gl cl n n ll ll wr h1 h1 (by omega) (by omega))
      have HQ := Lib.hid (And.intro h4 (And.intro h5 (And.intro h6 h7)))
      have HR := Lib.hid (And.intro h3 hnn)
      clear h1 h2 h3 h4 h5 h6 h7 hnn hll hn hrel
      go_wp2_with fail
      refine HSUM.out.mono ?_
      rintro e w2 ⟨v2, l2, rfl, ho2, hh2, hn2, hb2⟩
      have hbw := HQ.out.2.2.2
      have HB2 := Lib.hid (hbw.trans (hb2.mono hbw.size))
      have HO2 := Lib.hid (ho2.base (C := w.heap.size + 1) (by omega))
      have HQ2 := Lib.hid (HQ.out.1.below hb2)
      have HN2 := Lib.hid (And.intro hh2 hn2)
      have HBIT := Lib.hid (bit_any B1 g1 m1 c1 xs i w2 (H1.out.below HB2.out) HM1.out (by have := HK0.out; omega) (by omega))
      rw [← HA.out] at HBIT
      clear ho2 hh2 hn2 hb2 HSUM hbw
      obtain ⟨b, hb⟩ : ∃ b, b = bitAt A i := ⟨_, rfl⟩
      have HBB := Lib.hid hb
      have hb01 : b = 0 ∨ b = 1 := by rw [hb]; unfold bitAt; omega
      rw [← hb] at HBIT
      clear hb
      go_wp2_with fail
      refine HBIT.out.mono ?_
      unfold IntPost
      rintro e w' ⟨rfl, rfl⟩
      go_upto_if 27 with fail
      go_cut [7] (fun v wx => Hid (DMid w m1 A Bn i v wx))
      case first =>
        obtain ⟨h4, h5, h6, h7⟩ := HQ.out
        rcases hb01 with rfl | rfl
        · go_wp2_with fail
          go_meet
          refine ⟨l2, ql, HO2.out, HN2.out.1, ?_, HQ2.out, h5, h6, HB2.out⟩
          rw [HN2.out.2, HR.out.1, ← HBB.out]
          omega
        · obtain ⟨g3, c3, hv3, _, _, _, _⟩ := HO2.out.form
          obtain ⟨n3, hn3⟩ : ∃ n, n = l2.length := ⟨_, rfl⟩
          rw [← hn3] at hv3
          subst hv3
          have hba := (Below.refl w2.heap.size w2).alloc (Nat.le_refl _) (.cells #[.int .u8 1] 5)
          have hn3l : n3 ≤ 2000 := by
            rw [hn3]
            have : natOf l2 < 256 ^ (m2 + 1) := by rw [HN2.out.2, Nat.pow_succ]; have := HBL.out; have := HR.out.2; omega
            have := head_nat HN2.out.1 this
            omega
          have HSUM := Lib.hid (spec_sum _ _ g3 c3 w2.heap.size 1 n3 1 l2 [1] _ (HO2.out.below hba) (ob_one w2 1 (by omega)) (by omega) (by omega))
          have HBA := Lib.hid hba
          clear hba hn3 h4 h5 h6 h7
          go_wp2_with fail
          refine HSUM.out.mono ?_
          rintro e w4 ⟨v4, l4, rfl, ho4, hh4, hn4, hb4⟩
          have hb24 := HBA.out.trans (hb4.mono HBA.out.size)
          have HBX := Lib.hid hb24
          have HX := Lib.hid (And.intro ho4 (And.intro hh4 hn4))
          clear ho4 hh4 hn4 hb4 HSUM hb24
          go_wp2_with fail
          go_meet
          obtain ⟨h4, h5, h6, h7⟩ := HQ.out
          obtain ⟨ho4, hh4, hn4⟩ := HX.out
          refine ⟨l4, ql, ho4.base ?_, hh4, ?_, HQ2.out.below HBX.out, h5, h6, HB2.out.trans (HBX.out.mono HB2.out.size)⟩
          · have h8 := HB2.out.size
            have h9 := HBA.out.size
            have h10 := (HQ2.out.1.lt _ rfl).2
            omega
          · rw [hn4, HN2.out.2, HR.out.1, ← HBB.out]
            simp [natOf]
            omega
      case rest =>
        obtain ⟨ll, ql, h1, h2, h3, h4, h5, h6, h7⟩ := hcut.out
        clear HQ HQ2 HO2 HN2 HB2 HR HBB
        obtain ⟨gl, cl, hvl, hgl1, hgl2, _, _⟩ := h1.form
        obtain ⟨n, hn⟩ : ∃ n, n = ll.length := ⟨_, rfl⟩
        rw [← hn] at hvl
        subst hvl
        have hst := div_step A Bn i HB0.out
        rw [← h3] at hst
        have hnl : n ≤ 2000 := by
          rw [hn]
          have : natOf ll < 256 ^ (m2 + 1) := by rw [Nat.pow_succ]; have := HBL.out; omega
          have := head_nat h2 this
          omega
        have hord := order_full (w.heap.size + 1) B2 gl cl g2 c2 n m2 ll ys wc h1 (H2.out.below h7) h2 HY.out
        rw [← HBn.out] at hord
        obtain ⟨sg, hsg⟩ : ∃ sg, sg = sgn ((natOf ll : Int) - (Bn : Int)) := ⟨_, rfl⟩
        unfold OrdPost at hord
        rw [← hsg] at hord
        have HORD := Lib.hid hord
        have HQ := Lib.hid (And.intro h4 (And.intro h5 (And.intro h6 h7)))
        have HL := Lib.hid (And.intro h1 (And.intro h2 hn))
        have HST := Lib.hid hst
        have HSG := Lib.hid hsg
        clear h1 h2 h3 h4 h5 h6 h7 hn hst hord hsg hcut
        by_cases hge : Bn ≤ natOf ll
        · have hs0 : 0 ≤ sg := by
            rw [HSG.out]
            unfold sgn
            split
            · omega
            · split <;> omega
          have hd : decide (0 ≤ sg) = true := decide_eq_true hs0
          have HGE := Lib.hid hge
          clear hge hs0
          go_wp2_with fail
          refine HORD.out.mono ?_
          rintro e w3 ⟨rfl, hb3⟩
          have hbw := HQ.out.2.2.2
          have HB3 := Lib.hid (hbw.trans (hb3.mono hbw.size))
          have HLESS := Lib.hid (spec_less (w.heap.size + 1) B2 gl cl g2 c2 n m2 ll ys w3 (HL.out.1.below hb3) (H2.out.below HB3.out) (by omega) (by omega) (by rw [← HBn.out]; exact HGE.out))
          have HQ3 := Lib.hid (HQ.out.1.below hb3)
          clear hb3 hbw HORD
          go_wp2_with fail
          refine HLESS.out.mono ?_
          rintro e w5 ⟨v5, l5, rfl, ho5, hh5, hn5, hb5⟩
          rw [← HBn.out] at hn5
          have HB5 := Lib.hid (HB3.out.trans (hb5.mono HB3.out.size))
          have HQ5 := Lib.hid (HQ3.out.below hb5)
          have HO5 := Lib.hid (ho5.base (C := w.heap.size + 1) (by have h8 := HB3.out.size; have h9 : w.heap.size < w3.heap.size := (HQ3.out.1.lt _ rfl).2; omega))
          have HN5 := Lib.hid (And.intro hh5 hn5)
          obtain ⟨j, hj⟩ : ∃ j : Nat, j = m1 - 1 - i / 8 := ⟨_, rfl⟩
          have hji : (m1 : Int) - 1 - (i : Int) / 8 = (j : Int) := by have := HK0.out; omega
          have hjm : j < ql.length := by have := HK0.out; rw [HQ.out.2.1]; omega
          have hjm1 : (j : Int) < (m1 : Int) := by have := HQ.out.2.1; omega
          have hj0 : (0 : Int) ≤ (j : Int) := by omega
          obtain ⟨x, hx⟩ : ∃ x, x = ql[j]'hjm := ⟨_, rfl⟩
          have hcx := HQ5.out.cell j hjm
          have hfx := HQ5.out.free j
          rw [← hx] at hcx
          have hx256 : x < 256 := by rw [hx]; exact HQ5.out.2.2 _ (List.getElem_mem hjm)
          have HX := Lib.hid hx
          have HJ := Lib.hid hj
          clear ho5 hh5 hn5 hb5 HLESS hx hj
          have hqp := quo_put ql (A / 2 ^ (i + 1) / Bn) i m1 HQ.out.1.2.2 HQ.out.2.1 (by have := HK0.out; omega) HQ.out.2.2.1 (by rw [← HJ.out]; exact hjm)
          have HQP := Lib.hid hqp
          clear hqp
          go_wp2
          have hk8 : i % 8 < 8 := by omega
          have hxe : ql[m1 - 1 - i / 8]'(by rw [← HJ.out]; exact hjm) = x := by
            rw [HX.out]
            congr 1
            exact HJ.out.symm
          obtain ⟨hp1, hp2⟩ := HQP.out
          rw [hxe] at hp1 hp2
          rw [or8 x (i % 8) hx256 hk8 hp1]
          have hst := (HST.out.2.1 HGE.out)
          have hx2 : x + 2 ^ (i % 8) < 256 := (or_bit x (i % 8) hx256 hk8 hp1).2
          go_roundg i
          case measure => omega
          case rel =>
            refine ⟨rfl, by omega, ?_⟩
            have hne : ∀ v, v = v5 → ∀ g', v.ownBlock = some g' → g' ≠ w.heap.size := fun v hv g' hg => by
              subst hv
              have := (HO5.out.1.lt g' hg).1
              omega
            refine ⟨l5, ql.set j (x + 2 ^ (i % 8)), HO5.out.only1 (one_only' w5 w.heap.size j _) (hne _ rfl), HN5.out.1, ?_, HQ5.out.store j _ hx2, by rw [List.length_set]; exact HQ.out.2.1, ?_, HB5.out.setCell (p := ⟨w.heap.size, j, none⟩) (Nat.le_refl _) _⟩
            · rw [HN5.out.2, hst.1]
            · rw [hst.2, HJ.out]; exact hp2
        · have hs0 : ¬ 0 ≤ sg := by
            rw [HSG.out]
            unfold sgn
            split
            · omega
            · omega
          have hd : decide (0 ≤ sg) = false := decide_eq_false hs0
          have HGE := Lib.hid hge
          clear hge hs0
          go_wp2_with fail
          refine HORD.out.mono ?_
          rintro e w3 ⟨rfl, hb3⟩
          have HB3 := Lib.hid hb3
          clear hb3 HORD
          go_wp2
          have hst := (HST.out.2.2 (by have := HGE.out; omega))
          obtain ⟨h4, h5, h6, h7⟩ := HQ.out
          obtain ⟨h1, h2, h3⟩ := HL.out
          go_roundg i
          case measure => omega
          case rel =>
            refine ⟨rfl, by omega, ?_⟩
            refine ⟨ll, ql, h1.below HB3.out, h2, hst.1.symm, h4.below HB3.out, h5, ?_, h7.trans (HB3.out.mono h7.size)⟩
            rw [h6, hst.2, Nat.pow_succ, Nat.mul_comm (2 ^ i) 2, ← Nat.mul_assoc, Nat.mul_comm _ 2]
end Go.Proofs.Ytndeolcamgnmdaa
namespace Go.Proofs.Ytndeolcamgnmdaa
open Go.RowKit
attribute [local go_sem ↓] Go.wp_at_zero Go.wp_at_succ
def PosPost (n : Nat) (w : World) (e : Ending) (w' : World) : Prop := ∃ v l, e = .returned v ∧ SInt w' w.heap.size v false l ∧ natOf l = n ∧ Below w.heap.size w w'
theorem NumPost.pos {n : Nat} {w w' : World} {e : Ending} (h : NumPost (n : Int) w e w') : PosPost n w e w' := by
  obtain ⟨v, neg, l, h1, h2, h3, h4, h5⟩ := h
  cases neg with
  | false => exact ⟨v, l, h1, h2, by (have : (natOf l : Int) = n := by simpa [intOf2] using h4); omega, h5⟩
  | true =>
    exfalso
    obtain ⟨_, _, _, hh, hn⟩ := h2
    have h0 : natOf l ≠ 0 := fun h => hn rfl ((natOf_eq_zero hh).1 h)
    simp [intOf2] at h4
    omega
theorem pow8 (k : Nat) (hk : k < 8) : (2 : Int) ^ k % 256 = ((2 ^ k : Nat) : Int) ∧ 2 ^ k < 256 := by
  have hall : ∀ k : Fin 8, (2 : Int) ^ k.val % 256 = ((2 ^ k.val : Nat) : Int) ∧ 2 ^ k.val < 256 := by decide
  exact hall ⟨k, hk⟩
theorem pow_split (k n : Nat) (hn : n = k / 8 + 1) : natOf ((List.replicate n 0).set 0 (2 ^ (k % 8))) = 2 ^ k := by
  have h := natOf_set (List.replicate n 0) 0 (2 ^ (k % 8)) (by simp; omega) (by simp)
  rw [h, natOf_zeros, List.length_replicate, Nat.zero_add, show n - 1 - 0 = k / 8 by omega]
  rw [show (256 : Nat) = 2 ^ 8 by rfl, ← Nat.pow_mul, ← Nat.pow_add]
  congr 1
  omega
set_option maxRecDepth 20000 in
set_option maxHeartbeats 2000000 in
theorem spec_power (k : Nat) (w : World) (hk : k ≤ 8000) :
    Calls Try.prog 17 #[.int .i64 (k : Int)] w (NumPost ((2 ^ k : Nat) : Int) w) := by
  obtain ⟨n, hn⟩ : ∃ n : Nat, (k : Int) / 8 + 1 = (n : Int) := ⟨k / 8 + 1, by omega⟩
  have HN : Hid (n = k / 8 + 1) := by unfold Hid; omega
  obtain ⟨W1, hmk, hob, hbw⟩ := bytes_made n (by omega) (w.alloc (.cells #[.bool false, .slice none 0 0] 24))
  have e1 : (w.alloc (.cells #[.bool false, .slice none 0 0] 24)).heap.size = w.heap.size + 1 := by simp
  rw [e1] at hmk hob hbw
  have hR := (Blk.new w 24 #[.bool false, .slice none 0 0]).below hbw (by simp)
  obtain ⟨hp1, hp2⟩ := pow8 (k % 8) (by omega)
  obtain ⟨x, hx⟩ : ∃ x : Nat, x = 2 ^ (k % 8) := ⟨_, rfl⟩
  rw [← hx] at hp1 hp2
  have hn1 : 0 < (List.replicate n 0).length := by have := HN.out; simp; omega
  have hc := hob.cell 0 hn1
  have hf := hob.free 0
  have hob2 := hob.store 0 x hp2
  have HV := Lib.hid (pow_split k n HN.out)
  rw [← hx] at HV
  have hn0 : (0 : Int) < (n : Int) := by omega
  have HOB := Lib.hid hob2
  have HR := Lib.hid (hR.far (p := ⟨w.heap.size + 1, 0, none⟩) (by simp) (.int .u8 (x : Int)))
  have HBW := Lib.hid ((((Below.refl w.heap.size w).alloc (Nat.le_refl _) (.cells #[.bool false, .slice none 0 0] 24)).trans (hbw.mono (by omega))).setCell (p := ⟨w.heap.size + 1, 0, none⟩) (by simp) (.int .u8 (x : Int)))
  have HL : Hid (((List.replicate n 0).set 0 x).length ≤ 2000) := by unfold Hid; simp; omega
  have hl0 : (List.replicate n 0)[0]'hn1 = 0 := by simp
  rw [hl0] at hc
  clear hob hob2 hbw hR hx e1 hl0 hn1
  go_enter Try.func17, Try.ntmps17
  go_wp2_with fail
  refine (of_any false _ n n _ _ HOB.out.bsl (by have := HL.out; omega)).mono ?_
  rintro e w2 ⟨v2, rfl, hsi, hb2⟩
  have hsz : w.heap.size + 1 ≤ (W1.setCell ⟨w.heap.size + 1, 0, none⟩ (.int .u8 (x : Int))).heap.size := by have := HR.out.lt; omega
  have HSI := Lib.hid (hsi.base (C := w.heap.size + 1) hsz)
  have HB2 := Lib.hid (HBW.out.trans (hb2.mono (by omega)))
  obtain ⟨c0, c1, f0, f1⟩ := blk2 (HR.out.below hb2 HR.out.lt)
  obtain ⟨g2, c2, hv2⟩ := hsi.lit2
  obtain ⟨r, hr⟩ : ∃ r, r = (strip ((List.replicate n 0).set 0 x)).length := ⟨_, rfl⟩
  rw [← hr, show negOf false ((List.replicate n 0).set 0 x) = false from rfl] at hv2
  rw [show negOf false ((List.replicate n 0).set 0 x) = false from rfl] at HSI
  subst hv2
  clear hsi hb2 hr
  go_wp2
  refine bodyPost_ret (v := .agg #[.bool false, .slice (some ⟨g2, 0, none⟩) r c2]) (by simp [results, Try.results17, go_sem, c0, c1]) rfl (num_fin (l := strip ((List.replicate n 0).set 0 x)) (by omega) HSI.out ?_ HB2.out)
  simp [intOf2, natOf_strip, HV.out]
/-- Four boxes, made one behind the other. -/
def box4 (w : World) (t : TypeId) (a b c d : Value) : World := (((w.alloc (.cells #[a, b] t)).alloc (.cells #[c, d] t)).alloc (.cells #[.bool false, .slice none 0 0] t)).alloc (.cells #[.bool false, .slice none 0 0] t)
theorem box4_at {w W : World} {t : TypeId} {a b c d : Value} (h : Below (w.heap.size + 1 + 1 + 1 + 1) (box4 w t a b c d) W) :
    Blk W w.heap.size t #[a, b] ∧ Blk W (w.heap.size + 1) t #[c, d] ∧ Blk W (w.heap.size + 1 + 1) t #[.bool false, .slice none 0 0] ∧ Blk W (w.heap.size + 1 + 1 + 1) t #[.bool false, .slice none 0 0] ∧ w.heap.size + 1 + 1 + 1 + 1 ≤ W.heap.size ∧ Below w.heap.size w W := by
  unfold box4 at h
  have h3 : Below (w.heap.size + 1 + 1 + 1) (((w.alloc (.cells #[a, b] t)).alloc (.cells #[c, d] t)).alloc (.cells #[.bool false, .slice none 0 0] t)) W := ((Below.refl _ _).alloc (by simp) _).trans (h.mono (by omega))
  obtain ⟨k1, k2, k3, k4, k5⟩ := three_alloc h3
  exact ⟨k1, k2, k3, (Blk.new_at (((w.alloc (.cells #[a, b] t)).alloc (.cells #[c, d] t)).alloc (.cells #[.bool false, .slice none 0 0] t)) t #[.bool false, .slice none 0 0] (n := w.heap.size + 1 + 1 + 1) (by simp)).below h (by omega), by have := h.size; simpa using this, k5⟩
theorem box4_c {w W : World} {t : TypeId} {a b c d : Value} (h : Below (w.heap.size + 1 + 1 + 1 + 1) (box4 w t a b c d) W) : W.cell? ⟨w.heap.size + 1, 0, none⟩ = some c := by
  obtain ⟨_, h2, _⟩ := box4_at h
  exact (blk2 h2).1
theorem box4_c1 {w W : World} {t : TypeId} {a b c d : Value} (h : Below (w.heap.size + 1 + 1 + 1 + 1) (box4 w t a b c d) W) (u u' : Value) : ((W.setCell ⟨w.heap.size + 1 + 1, 0, none⟩ u).setCell ⟨w.heap.size + 1 + 1, 1, none⟩ u').cell? ⟨w.heap.size + 1, 0, none⟩ = some c := by
  obtain ⟨_, h2, _⟩ := box4_at h
  exact (blk2 ((h2.far (p := ⟨w.heap.size + 1 + 1, 0, none⟩) (by simp) u).far (p := ⟨w.heap.size + 1 + 1, 1, none⟩) (by simp) u')).1
theorem box4_c2 {w W : World} {t : TypeId} {a b c d : Value} (h : Below (w.heap.size + 1 + 1 + 1 + 1) (box4 w t a b c d) W) (u u' u2 u3 : Value) : ((((W.setCell ⟨w.heap.size + 1 + 1, 0, none⟩ u).setCell ⟨w.heap.size + 1 + 1, 1, none⟩ u').setCell ⟨w.heap.size + 1 + 1 + 1, 0, none⟩ u2).setCell ⟨w.heap.size + 1 + 1 + 1, 1, none⟩ u3).cell? ⟨w.heap.size + 1, 0, none⟩ = some c := by
  obtain ⟨_, h2, _⟩ := box4_at h
  exact (blk2 ((((h2.far (p := ⟨w.heap.size + 1 + 1, 0, none⟩) (by simp) u).far (p := ⟨w.heap.size + 1 + 1, 1, none⟩) (by simp) u').far (p := ⟨w.heap.size + 1 + 1 + 1, 0, none⟩) (by simp) u2).far (p := ⟨w.heap.size + 1 + 1 + 1, 1, none⟩) (by simp) u3)).1
def FloorPost (A Bn : Nat) (w : World) (e : Ending) (w' : World) : Prop :=
  ∃ u1 u2 k1 k2, e = .returned (.tuple #[u1, u2]) ∧ SInt w' w.heap.size u1 false k1 ∧ SInt w' w.heap.size u2 false k2 ∧ natOf k1 = A / Bn ∧ natOf k2 = A % Bn ∧ Below w.heap.size w w'
theorem four_set (w : World) (b c : Nat) (u0 u1 u2 u3 : Value) : Only (fun k => k = b ∨ k = c) w ((((w.setCell ⟨b, 0, none⟩ u0).setCell ⟨b, 1, none⟩ u1).setCell ⟨c, 0, none⟩ u2).setCell ⟨c, 1, none⟩ u3) :=
  ((two_set w b u0 u1).mono (fun _ _ h => .inl h)).trans ((two_set _ c u2 u3).mono (fun _ _ h => .inr h))
theorem floor_fin {w W : World} {A Bn : Nat} {u1 u2 : Value} {k1 k2 : List Nat} (h1 : SInt W (w.heap.size + 1 + 1 + 1 + 1) (.agg #[.bool false, u1]) false k1) (h2 : SInt W (w.heap.size + 1 + 1 + 1 + 1) (.agg #[.bool false, u2]) false k2) (n1 : natOf k1 = A / Bn) (n2 : natOf k2 = A % Bn) (hb : Below w.heap.size w W) :
    FloorPost A Bn w (.returned (.tuple #[.agg #[.bool false, u1], .agg #[.bool false, u2]])) ((((W.setCell ⟨w.heap.size + 1 + 1, 0, none⟩ (.bool false)).setCell ⟨w.heap.size + 1 + 1, 1, none⟩ u1).setCell ⟨w.heap.size + 1 + 1 + 1, 0, none⟩ (.bool false)).setCell ⟨w.heap.size + 1 + 1 + 1, 1, none⟩ u2) := by
  have ho := four_set W (w.heap.size + 1 + 1) (w.heap.size + 1 + 1 + 1) (.bool false) u1 (.bool false) u2
  exact ⟨_, _, k1, k2, rfl, (h1.only ho (fun g hg e => by omega)).base (by omega), (h2.only ho (fun g hg e => by omega)).base (by omega), n1, n2, hb.trans (ho.to_below hb.size (fun k _ e => by omega))⟩
set_option maxRecDepth 100000 in
set_option maxHeartbeats 4000000 in
theorem spec_floor_pos (B1 B2 : Nat) (v1 v2 : Value) (l1 l2 : List Nat) (w : World) (hv1 : SInt w B1 v1 false l1) (hv2 : SInt w B2 v2 false l2) (hl1 : l1.length ≤ 1000) (hl2 : l2.length ≤ 1000) (h0 : 0 < natOf l2) :
    Calls Try.prog 28 #[v1, v2] w (FloorPost (natOf l1) (natOf l2) w) := by
  obtain ⟨g1, c1, rfl⟩ := hv1.lit2
  obtain ⟨g2, c2, rfl⟩ := hv2.lit2
  obtain ⟨m1, hm1⟩ : ∃ m, m = l1.length := ⟨_, rfl⟩
  obtain ⟨m2, hm2⟩ : ∃ m, m = l2.length := ⟨_, rfl⟩
  obtain ⟨_, e1, ho1, _, _⟩ := hv1
  obtain ⟨_, e2, ho2, hh2, _⟩ := hv2
  simp only [Value.agg.injEq, Array.mk.injEq, List.cons.injEq, and_true, true_and] at e1 e2
  subst e1 e2
  rw [← hm1] at ho1 ⊢
  rw [← hm2] at ho2 ⊢
  have C0 := Lib.hid (Below.refl (w.heap.size + 1 + 1 + 1 + 1) (box4 w 24 (.bool false) (.slice (some ⟨g1, 0, none⟩) m1 c1) (.bool false) (.slice (some ⟨g2, 0, none⟩) m2 c2)))
  have HSP := Lib.hid (spec_split B1 B2 g1 c1 g2 c2 m1 m2 l1 l2 _ (ho1.below (box4_at C0.out).2.2.2.2.2) (ho2.below (box4_at C0.out).2.2.2.2.2) (by omega) (by omega) hh2 h0)
  have hA : natOf l1 < 256 ^ m1 := by rw [hm1]; exact natOf_lt l1 ho1.2.2
  have hBl : natOf l2 < 256 ^ m2 := by rw [hm2]; exact natOf_lt l2 ho2.2.2
  have HAB := Lib.hid (And.intro hA (And.intro hBl h0))
  have hm1b : m1 ≤ 1000 := by omega
  have hm2b : m2 ≤ 1000 := by omega
  clear ho1 ho2 hh2 h0 hm1 hm2 hl1 hl2 hA hBl
  unfold box4 at HSP
  go_enter Try.func28, Try.ntmps28
  go_wp2_with fail
  refine HSP.out.mono ?_
  rintro e w2 ⟨qv, rv, ql, rl, rfl, hq, hr, hqh, hrh, hqn, hrn, hb2⟩
  have C1 := Lib.hid (C0.out.trans (hb2.mono (by simp)))
  have HS4 := Lib.hid ((box4_at C1.out).2.2.2.2.1)
  obtain ⟨a0, a1, _, _⟩ := blk2 (box4_at C1.out).1
  obtain ⟨b0, b1, _, _⟩ := blk2 (box4_at C1.out).2.1
  have hqlen : ql.length ≤ m1 := head_nat hqh (by rw [hqn]; exact Nat.lt_of_le_of_lt (Nat.div_le_self _ _) HAB.out.1)
  have hrlen : rl.length ≤ m2 := head_nat hrh (by rw [hrn]; exact Nat.lt_trans (Nat.mod_lt _ HAB.out.2.2) HAB.out.2.1)
  obtain ⟨gq, cq, hqv, _, _, _, _⟩ := hq.form
  obtain ⟨gr, cr, hrv, _, _, _, _⟩ := hr.form
  obtain ⟨nq, hnq⟩ : ∃ n, n = ql.length := ⟨_, rfl⟩
  obtain ⟨nr, hnr⟩ : ∃ n, n = rl.length := ⟨_, rfl⟩
  rw [← hnq] at hqv
  rw [← hnr] at hrv
  subst hqv hrv
  have OFQ : Hid (∀ W, Below w2.heap.size w2 W → Calls Try.prog 11 #[.bool false, .slice (some ⟨gq, 0, none⟩) nq cq] W (OfPost false ql W)) := fun W h => of_any false _ _ _ ql W ((hq.below h).bsl) (by omega)
  have OFR : Hid (∀ W, Below w2.heap.size w2 W → Calls Try.prog 11 #[.bool false, .slice (some ⟨gr, 0, none⟩) nr cr] W (OfPost false rl W)) := fun W h => of_any false _ _ _ rl W ((hr.below h).bsl) (by omega)
  have HN := Lib.hid (And.intro hqn hrn)
  clear hq hr hqh hrh hqn hrn hb2 hnq hnr hqlen hrlen
  go_wp2_with fail
  have C2 := Lib.hid ((Below.refl w2.heap.size w2).drew)
  go_region_held3 (fun W => W.cell? ⟨w.heap.size + 1, 0, none⟩ = some (.bool false))
    (first | (with_reducible exact box4_c (C1.out.trans (C4.out.mono HS4.out))) | (with_reducible exact box4_c1 (C1.out.trans (C4.out.mono HS4.out)) _ _) | (with_reducible exact box4_c2 (C1.out.trans (C4.out.mono HS4.out)) _ _ _ _) | (with_reducible exact box4_c (C1.out.trans (C3.out.mono HS4.out))) | (with_reducible exact box4_c (C1.out.trans (C2.out.mono HS4.out))) | (with_reducible exact box4_c C1.out) | go_keep)
    (first
    | (go_at_call 11; (with_reducible refine (OFQ.out _ C3.out).mono ?_); rintro e wC4 ⟨vq, rfl, hsq, hbq⟩; have SQ := Lib.hid (hsq.base (Nat.le_trans HS4.out C3.out.size)); have SR2 := Lib.hid (SR.out.below hbq); have C4 := Lib.hid (C3.out.trans (hbq.mono C3.out.size)); obtain ⟨gq2, cq2, hvq⟩ := hsq.lit2; obtain ⟨rq, hrq⟩ : ∃ r, r = (strip ql).length := ⟨_, rfl⟩; rw [← hrq, show negOf false ql = false from rfl] at hvq; rw [show negOf false ql = false from rfl, hvq] at SQ; subst hvq; have SQ2 := Lib.hid SQ.out; obtain ⟨k0, k1, f0, f1⟩ := blk2 (box4_at (C1.out.trans (C4.out.mono HS4.out))).2.2.1; obtain ⟨j0, j1, p0, p1⟩ := blk2 (box4_at (C1.out.trans (C4.out.mono HS4.out))).2.2.2.1; clear hsq hbq hrq)
    | (go_at_call 11; (with_reducible refine (OFR.out _ C3.out).mono ?_); rintro e wC4 ⟨vq, rfl, hsq, hbq⟩; have SR := Lib.hid (hsq.base (Nat.le_trans HS4.out C3.out.size)); have SQ2 := Lib.hid (SQ.out.below hbq); have C4 := Lib.hid (C3.out.trans (hbq.mono C3.out.size)); obtain ⟨gr2, cr2, hvq⟩ := hsq.lit2; obtain ⟨rr, hrq⟩ : ∃ r, r = (strip rl).length := ⟨_, rfl⟩; rw [← hrq, show negOf false rl = false from rfl] at hvq; rw [show negOf false rl = false from rfl, hvq] at SR; subst hvq; have SR2 := Lib.hid SR.out; obtain ⟨k0, k1, f0, f1⟩ := blk2 (box4_at (C1.out.trans (C4.out.mono HS4.out))).2.2.1; obtain ⟨j0, j1, p0, p1⟩ := blk2 (box4_at (C1.out.trans (C4.out.mono HS4.out))).2.2.2.1; clear hsq hbq hrq)
    | (go_at_call 11; (with_reducible refine (OFQ.out _ C2.out).mono ?_); rintro e wC3 ⟨vq, rfl, hsq, hbq⟩; have SQ := Lib.hid (hsq.base (Nat.le_trans HS4.out C2.out.size)); have C3 := Lib.hid (C2.out.trans (hbq.mono C2.out.size)); obtain ⟨gq2, cq2, hvq⟩ := hsq.lit2; obtain ⟨rq, hrq⟩ : ∃ r, r = (strip ql).length := ⟨_, rfl⟩; rw [← hrq, show negOf false ql = false from rfl] at hvq; rw [show negOf false ql = false from rfl, hvq] at SQ; subst hvq; clear hsq hbq hrq)
    | (go_at_call 11; (with_reducible refine (OFR.out _ C2.out).mono ?_); rintro e wC3 ⟨vq, rfl, hsq, hbq⟩; have SR := Lib.hid (hsq.base (Nat.le_trans HS4.out C2.out.size)); have C3 := Lib.hid (C2.out.trans (hbq.mono C2.out.size)); obtain ⟨gr2, cr2, hvq⟩ := hsq.lit2; obtain ⟨rr, hrq⟩ : ∃ r, r = (strip rl).length := ⟨_, rfl⟩; rw [← hrq, show negOf false rl = false from rfl] at hvq; rw [show negOf false rl = false from rfl, hvq] at SR; subst hvq; clear hsq hbq hrq))
  all_goals
    go_wp2
    refine bodyPost_ret (v := .tuple #[.agg #[.bool false, .slice (some ⟨gq2, 0, none⟩) rq cq2], .agg #[.bool false, .slice (some ⟨gr2, 0, none⟩) rr cr2]]) (by simp [results, Try.results28, go_sem, k0, k1, j0, j1]) rfl (floor_fin SQ2.out SR2.out (by rw [natOf_strip]; exact HN.out.1) (by rw [natOf_strip]; exact HN.out.2) (box4_at (C1.out.trans (C4.out.mono HS4.out))).2.2.2.2.2)
end Go.Proofs.Ytndeolcamgnmdaa
namespace Go.Proofs.Ytndeolcamgnmdaa
/-- The number of digits that lie the lowest one first. -/
def lv : List Nat → Nat
  | [] => 0
  | x :: r => x + 256 * lv r
theorem lv_set : ∀ (l : List Nat) (j y : Nat) (h : j < l.length), lv (l.set j y) + (l[j]'h) * 256 ^ j = lv l + y * 256 ^ j
  | [], j, y, h => by simp at h
  | x :: r, 0, y, h => by simp [lv]; omega
  | x :: r, j + 1, y, h => by
    have := lv_set r j y (by simpa using h)
    simp only [List.set_cons_succ, lv, List.getElem_cons_succ, Nat.pow_succ]
    have e1 : r[j]'(by simpa using h) * (256 ^ j * 256) = 256 * (r[j]'(by simpa using h) * 256 ^ j) := by rw [← Nat.mul_assoc, Nat.mul_comm]
    have e2 : y * (256 ^ j * 256) = 256 * (y * 256 ^ j) := by rw [← Nat.mul_assoc, Nat.mul_comm]
    rw [e1, e2]
    omega
theorem lv_zeros (n : Nat) : lv (List.replicate n 0) = 0 := by
  induction n with
  | zero => rfl
  | succ k ih => rw [List.replicate_succ]; simp [lv, ih]
theorem lv_ge : ∀ (l : List Nat) (j : Nat) (h : j < l.length), (l[j]'h) * 256 ^ j ≤ lv l
  | [], j, h => by simp at h
  | x :: r, 0, h => by simp [lv]
  | x :: r, j + 1, h => by
    have := lv_ge r j (by simpa using h)
    simp only [lv, List.getElem_cons_succ, Nat.pow_succ]
    rw [← Nat.mul_assoc, Nat.mul_comm]
    omega
theorem lv_take (l : List Nat) (i : Nat) (h : i < l.length) : lv (l.take (i + 1)) = lv (l.take i) + (l[i]'h) * 256 ^ i := by
  induction l generalizing i with
  | nil => simp at h
  | cons x r ih =>
    cases i with
    | zero => simp [lv]
    | succ i =>
      have := ih i (by simpa using h)
      simp only [List.take_succ_cons, lv, this, List.getElem_cons_succ, Nat.pow_succ]
      rw [Nat.mul_add, ← Nat.mul_assoc (r[i]'(by simpa using h)), Nat.mul_comm _ 256]
      omega
theorem lv_all (l : List Nat) (n : Nat) (hl : l.length = n + 1) (hv : lv l < 256 ^ n) : lv (l.take n) = lv l := by
  have h1 := lv_take l n (by omega)
  have h2 := lv_ge l n (by omega)
  have h3 : l[n]'(by omega) = 0 := by
    rcases Nat.eq_zero_or_pos (l[n]'(by omega)) with h | h
    · exact h
    · have := Nat.mul_le_mul_right (256 ^ n) h
      omega
  rw [h3, ← hl, List.take_length] at h1
  omega
theorem mod_dig (A i : Nat) : A % 256 ^ (i + 1) = A % 256 ^ i + dig A i * 256 ^ i := by
  unfold dig
  rw [Nat.pow_succ, Nat.mod_mul]
  rw [Nat.mul_comm (256 ^ i)]
theorem mod_dig' (A i : Nat) : A % (256 ^ i * 256) = A % 256 ^ i + dig A i * 256 ^ i := by rw [← Nat.pow_succ]; exact mod_dig A i
/-- One digit's product put behind what lies there. -/
theorem mul_step (D D' a b c s A0 P Q Bk : Nat) (h : D + c * (P * Q) = A0 + a * P * Bk) (hs : s = D' + a * b + c) (E : Nat) (hE : E + D' * (P * Q) = D + s % 256 * (P * Q)) : E + s / 256 * (P * (Q * 256)) = A0 + a * P * (Bk + b * Q) := by
  have e1 : s = 256 * (s / 256) + s % 256 := (Nat.div_add_mod s 256).symm
  generalize s / 256 = u at *
  generalize s % 256 = v at *
  have e2 : u * (P * (Q * 256)) = 256 * u * (P * Q) := by rw [← Nat.mul_assoc P Q 256, ← Nat.mul_assoc, Nat.mul_comm _ 256, ← Nat.mul_assoc]
  have e3 : a * P * (b * Q) = a * b * (P * Q) := by rw [Nat.mul_mul_mul_comm]
  rw [e2, Nat.mul_add (a * P), e3]
  have e4 : (256 * u + v) * (P * Q) = (D' + a * b + c) * (P * Q) := by rw [← e1, hs]
  rw [Nat.add_mul, Nat.add_mul, Nat.add_mul] at e4
  omega
end Go.Proofs.Ytndeolcamgnmdaa
namespace Go.Proofs.Ytndeolcamgnmdaa
open Go.RowKit
attribute [local go_sem ↓] Go.wp_at_zero Go.wp_at_succ
/-- A block of ints. -/
def RI (w : World) (g : Nat) (l : List Nat) : Prop := Blk w g 3 (l.map fun (x : Nat) => Value.int .i64 (x : Int)).toArray
theorem RI.cell {w : World} {g : Nat} {l : List Nat} (h : RI w g l) (j : Nat) (hj : j < l.length) : w.cell? ⟨g, j, none⟩ = some (.int .i64 ((l[j]'hj : Nat) : Int)) := by
  rw [Blk.cell h j]
  simp [hj]
theorem RI.put {w : World} {g : Nat} {l : List Nat} (h : RI w g l) (j x : Nat) : RI (w.setCell ⟨g, j, none⟩ (.int .i64 (x : Int))) g (l.set j x) := by
  have := Blk.put h j (.int .i64 (x : Int))
  unfold RI
  rw [List.map_set]
  simpa using this
theorem RI.below {w w' : World} {g : Nat} {l : List Nat} (h : RI w g l) (hb : Below w.heap.size w w') : RI w' g l := Blk.below h hb (Blk.lt h)
theorem Try.infoInt : (Try.prog.info? 3).map (fun i => (i.zero, i.size, i.bytes)) = some (some (.int .i64 0), 1, 8) := by kernel_rfl
theorem ints_made (n : Nat) (hn : n ≤ 100000) (w : World) :
    ∃ W1, (Instr.makeSlice 81 (.int .i64 (n : Int)) (.int .i64 (n : Int))).run Try.prog w = .ok (.slice (some ⟨w.heap.size, 0, none⟩) n n) W1 ∧ RI W1 w.heap.size (List.replicate n 0) ∧ Below w.heap.size w W1 := by
  obtain ⟨i0, hi, hz0, hz1, hz2⟩ := info_parts Try.infoInt
  have h := run_make (P := Try.prog) w 81 3 i0 _ Try.underlying81 hi hz0 .i64 .i64 (n : Int) (n : Int) (by omega) (by omega) (by rw [hz2]; omega) (by omega)
  have e : madeCells (Value.int .i64 0).cells ((n : Int).toNat * i0.size) = madeCells #[.int .i64 0] n := by rw [hz1]; simp [Value.cells]
  have e1 : ((n : Int).toNat) = n := by omega
  rw [e, e1] at h
  refine ⟨_, h, ?_, (Below.refl _ w).alloc (Nat.le_refl _) _⟩
  have h2 := Blk.new w 3 (madeCells #[.int .i64 0] n)
  have h3 : madeCells #[.int .i64 0] n = ((List.replicate n 0).map fun (x : Nat) => Value.int .i64 (x : Int)).toArray := by
    apply Array.toList_inj.1
    rw [toList_madeCells_one]
    simp
  unfold RI
  rw [← h3]
  exact h2
theorem bel_dn (w : World) (n : Nat) : Below w.heap.size w (w.drewN n) := ⟨rfl, rfl, rfl, Nat.le_refl _, fun _ _ => rfl⟩
/-- What the product has at the head of its outer loop. -/
def MO (R g : Nat) (W0 : World) (m2 n A Bn i : Nat) (wr : World) : Prop :=
  ∃ D, RI wr g D ∧ D.length = n + 1 ∧ (∀ x ∈ D, x < 256) ∧ lv D = A % 256 ^ i * Bn ∧ (∀ j (h : j < D.length), i + m2 ≤ j → D[j]'h = 0) ∧ Below R W0 wr
/-- .. and of its inner one. -/
def MI (R g : Nat) (W0 : World) (m2 n A Bn i k c : Nat) (wr : World) : Prop :=
  ∃ D, RI wr g D ∧ D.length = n + 1 ∧ (∀ x ∈ D, x < 256) ∧ lv D + c * (256 ^ i * 256 ^ k) = A % 256 ^ i * Bn + dig A i * 256 ^ i * (Bn % 256 ^ k) ∧ (∀ j (h : j < D.length), i + m2 ≤ j → i + k ≤ j → D[j]'h = 0) ∧ c < 256 ∧ (m2 < k → c = 0) ∧ Below R W0 wr
theorem MO.inner {R g m2 n A Bn i : Nat} {W0 wr : World} (h : MO R g W0 m2 n A Bn i wr) : MI R g W0 m2 n A Bn i 0 0 wr := by
  obtain ⟨D, h1, h2, h3, h4, h5, h6⟩ := h
  exact ⟨D, h1, h2, h3, by rw [h4]; simp [Nat.mod_one], fun j hj a _ => h5 j hj a, by omega, fun _ => rfl, h6⟩
theorem MI.outer {R g m2 n A Bn i k : Nat} {W0 wr : World} (h : MI R g W0 m2 n A Bn i k 0 wr) (hk : m2 ≤ k) (hk2 : k ≤ m2 + 1) (hB : Bn < 256 ^ m2) : MO R g W0 m2 n A Bn (i + 1) wr := by
  obtain ⟨D, h1, h2, h3, h4, h5, _, _, h6⟩ := h
  refine ⟨D, h1, h2, h3, ?_, fun j hj a => h5 j hj (by omega) (by omega), h6⟩
  have hlt : Bn < 256 ^ k := Nat.lt_of_lt_of_le hB (Nat.pow_le_pow_right (by omega) hk)
  rw [Nat.mod_eq_of_lt hlt] at h4
  rw [mod_dig, Nat.add_mul, ← h4]
  omega
theorem MI.next {R g m2 n A Bn i k c s p x u : Nat} {W0 wr : World} {D : List Nat} (h1 : RI wr g D) (h2 : D.length = n + 1) (h3 : ∀ x ∈ D, x < 256) (h4 : lv D + c * (256 ^ i * 256 ^ k) = A % 256 ^ i * Bn + dig A i * 256 ^ i * (Bn % 256 ^ k)) (h5 : ∀ j (h : j < D.length), i + m2 ≤ j → i + k ≤ j → D[j]'h = 0) (hc : c < 256) (hcz : m2 < k → c = 0) (hb : Below R W0 wr)
    (hp : p = i + k) (hpl : p < D.length) (hs : s = D[p]'hpl + dig A i * dig Bn k + c) (hx : x = s % 256) (hu : u = s / 256) (hB : Bn < 256 ^ m2) (hgR : R ≤ g) : MI R g W0 m2 n A Bn i (k + 1) u (wr.setCell ⟨g, p, none⟩ (.int .i64 (x : Int))) := by
  have hD : D[p]'hpl < 256 := h3 _ (List.getElem_mem hpl)
  have hda := dig_lt A i
  have hdb := dig_lt Bn k
  have hab : dig A i * dig Bn k ≤ 255 * 255 := Nat.mul_le_mul (by omega) (by omega)
  have hdz : m2 ≤ k → dig Bn k = 0 := fun h => by
    unfold dig
    rw [Nat.div_eq_of_lt (Nat.lt_of_lt_of_le hB (Nat.pow_le_pow_right (by omega) h))]
  refine ⟨D.set p x, h1.put p x, by rw [List.length_set]; exact h2, fun y hy => ?_, ?_, fun j hj a b => ?_, by omega, fun h => ?_, hb.setCell (p := ⟨g, p, none⟩) hgR _⟩
  · rcases List.mem_or_eq_of_mem_set hy with h | h
    · exact h3 y h
    · omega
  · have hset := lv_set D p x hpl
    have e1 : 256 ^ p = 256 ^ i * 256 ^ k := by rw [hp, Nat.pow_add]
    rw [e1] at hset
    rw [hx] at hset
    have := mul_step (lv D) (D[p]'hpl) (dig A i) (dig Bn k) c s (A % 256 ^ i * Bn) (256 ^ i) (256 ^ k) (Bn % 256 ^ k) h4 hs (lv (D.set p (s % 256))) hset
    rw [hx, hu, Nat.pow_succ, mod_dig' Bn k]
    exact this
  · rw [List.getElem_set_ne (by omega)]
    exact h5 j (by simpa using hj) a (by omega)
  · have h7 : m2 ≤ k := by omega
    have h8 : D[p]'hpl = 0 := h5 p hpl (by omega) (by omega)
    rw [hu, hs, h8, hdz h7]
    omega
theorem MO.start {R g m2 n A Bn : Nat} {W0 W1 : World} (h : RI W1 g (List.replicate (n + 1) 0)) (hb : Below R W0 W1) : MO R g W0 m2 n A Bn 0 W1 :=
  ⟨_, h, by simp, by intro x hx; have := List.eq_of_mem_replicate hx; omega, by rw [lv_zeros]; simp [Nat.mod_one], by intro j hj _; simp, hb⟩
set_option maxRecDepth 100000 in
set_option maxHeartbeats 8000000 in
theorem spec_mul_pos (B1 B2 : Nat) (v1 v2 : Value) (l1 l2 : List Nat) (w : World) (hv1 : SInt w B1 v1 false l1) (hv2 : SInt w B2 v2 false l2) (hl1 : l1.length ≤ 1000) (hl2 : l2.length ≤ 1000) :
    Calls Try.prog 31 #[v1, v2] w (PosPost (natOf l1 * natOf l2) w) := by
  obtain ⟨g1, c1, rfl⟩ := hv1.lit2
  obtain ⟨g2, c2, rfl⟩ := hv2.lit2
  obtain ⟨m1, hm1⟩ : ∃ m, m = l1.length := ⟨_, rfl⟩
  obtain ⟨m2, hm2⟩ : ∃ m, m = l2.length := ⟨_, rfl⟩
  obtain ⟨_, e1, ho1, _, _⟩ := hv1
  obtain ⟨_, e2, ho2, _, _⟩ := hv2
  simp only [Value.agg.injEq, Array.mk.injEq, List.cons.injEq, and_true, true_and] at e1 e2
  subst e1 e2
  rw [← hm1] at ho1 ⊢
  rw [← hm2] at ho2 ⊢
  have HA := Lib.hid (natOf_lt l1 ho1.2.2)
  have HBn := Lib.hid (natOf_lt l2 ho2.2.2)
  rw [← hm1] at HA
  rw [← hm2] at HBn
  obtain ⟨A, hA⟩ : ∃ A, A = natOf l1 := ⟨_, rfl⟩
  obtain ⟨Bn, hB⟩ : ∃ B, B = natOf l2 := ⟨_, rfl⟩
  rw [← hA] at HA ⊢
  rw [← hB] at HBn ⊢
  have HAE := Lib.hid hA
  have HBE := Lib.hid hB
  have HM1 := Lib.hid hm1
  have HM2 := Lib.hid hm2
  have HO1 := Lib.hid ho1
  have HO2 := Lib.hid ho2
  have hm1b : m1 ≤ 1000 := by omega
  have hm2b : m2 ≤ 1000 := by omega
  clear hm1 hm2 ho1 ho2 hA hB hl1 hl2
  obtain ⟨W0, hW0⟩ : ∃ W0, W0 = ((w.alloc (.cells #[.bool false, .slice (some ⟨g1, 0, none⟩) m1 c1] 24)).alloc (.cells #[.bool false, .slice (some ⟨g2, 0, none⟩) m2 c2] 24)).alloc (.cells #[.bool false, .slice none 0 0] 24) := ⟨_, rfl⟩
  have C0 : Hid (Below (w.heap.size + 1 + 1 + 1) (((w.alloc (.cells #[.bool false, .slice (some ⟨g1, 0, none⟩) m1 c1] 24)).alloc (.cells #[.bool false, .slice (some ⟨g2, 0, none⟩) m2 c2] 24)).alloc (.cells #[.bool false, .slice none 0 0] 24)) W0) := by rw [hW0]; exact Below.refl _ _
  have hs0 : W0.heap.size = w.heap.size + 1 + 1 + 1 := by rw [hW0]; simp
  obtain ⟨n, hn⟩ : ∃ n : Nat, (m1 : Int) + (m2 : Int) = (n : Int) := ⟨m1 + m2, by omega⟩
  obtain ⟨n1, hn1⟩ : ∃ n1 : Nat, (n : Int) + 1 = (n1 : Int) := ⟨n + 1, by omega⟩
  have HN : Hid (n = m1 + m2 ∧ n1 = n + 1) := ⟨by omega, by omega⟩
  obtain ⟨g, hg⟩ : ∃ g, g = W0.heap.size := ⟨_, rfl⟩
  obtain ⟨W1, hmk, hri, hbw⟩ := ints_made n1 (by omega) W0
  rw [← hg] at hmk hri hbw
  have hs1 : g < W1.heap.size := Blk.lt hri
  have HMK := hmk
  have HREL : Hid (MO g g W0 m2 n A Bn 0 W1) := MO.start (by rw [← HN.out.2]; exact hri) hbw
  have HG : Hid (g = w.heap.size + 1 + 1 + 1) := by unfold Hid; rw [hg, hs0]
  have HW0 := Lib.hid hW0
  have HX : Hid (∀ W, Below g W0 W → (W.cell? ⟨w.heap.size, 0, none⟩ = some (.bool false) ∧ W.cell? ⟨w.heap.size, 1, none⟩ = some (.slice (some ⟨g1, 0, none⟩) m1 c1) ∧ W.cell? ⟨w.heap.size + 1, 0, none⟩ = some (.bool false) ∧ W.cell? ⟨w.heap.size + 1, 1, none⟩ = some (.slice (some ⟨g2, 0, none⟩) m2 c2)) ∧ Blk W (w.heap.size + 1 + 1) 24 #[.bool false, .slice none 0 0] ∧ Below w.heap.size w W) := fun W h => by
    have h2 := C0.out.trans (h.mono (by rw [HG.out]; exact Nat.le_refl _))
    exact ⟨three_cells h2, (three_alloc h2).2.2.1, (three_alloc h2).2.2.2.2⟩
  clear hri hbw hs0 hg hW0
  go_enter Try.func31, Try.ntmps31
  go_upto_region 2 with fail
  rw [← HW0.out]
  go_wp2_with fail
  go_loopg [7, 8, 9, 10] m1 (fun q iv _ _ _ wr => ∃ i : Nat, iv = .int .i64 (i : Int) ∧ q + i = m1 ∧ Hid (MO g g W0 m2 n A Bn i wr))
  case atStart => exact ⟨0, rfl, rfl, HREL⟩
  case round =>
    obtain ⟨i, rfl, hq, hrel⟩ := hrel
    have hbel : Below g W0 wr := hrel.out.choose_spec.2.2.2.2.2
    obtain ⟨⟨a0, a1, b0, b1⟩, hk2, hbw⟩ := HX.out wr hbel
    have HK2 := Lib.hid hk2
    have HBW := Lib.hid hbw
    have hsz := hbel.size
    clear hbel hk2 hbw
    by_cases hin : i < m1
    · have d0 : decide ((i : Int) < (m1 : Int)) = true := by simp; omega
      have d0n : decide (i < m1) = true := by simp; omega
      have HIN := Lib.hid (hrel.out.inner)
      go_wp2_with fail
      go_loopg [8, 9, 10] (m2 + 1) (fun q cv kv _ wx => ∃ k c : Nat, cv = .int .i64 (c : Int) ∧ kv = .int .i64 (k : Int) ∧ q + k = m2 + 1 ∧ Hid (MI g g W0 m2 n A Bn i k c wx))
      case atStart => exact ⟨0, 0, rfl, rfl, rfl, HIN⟩
      case round =>
        obtain ⟨k, c, rfl, rfl, hqk, hmi⟩ := hrel
        have HMI := Lib.hid hmi.out
        obtain ⟨D, h1, h2, h3, h4, h5, h6, h7, h8⟩ := hmi.out
        obtain ⟨⟨e0, e1, f0, f1⟩, _, hbwi⟩ := HX.out wr h8
        have hszi := h8.size
        clear a0 a1 b0 b1
        by_cases hcont : k < m2 ∨ 0 < c
        · have hkm : k ≤ m2 := by
            rcases hcont with h | h
            · omega
            · rcases Nat.lt_or_ge m2 k with h9 | h9
              · have := h7 h9; omega
              · exact h9
          have HQK : Hid (gk + k = m2 + 1 ∧ k ≤ m2) := ⟨hqk, hkm⟩
          obtain ⟨p, hp⟩ : ∃ p, p = i + k := ⟨_, rfl⟩
          have hpl : p < D.length := by have := HN.out; omega
          obtain ⟨d, hd⟩ : ∃ d, d = D[p]'hpl := ⟨_, rfl⟩
          obtain ⟨a, ha⟩ : ∃ a, a = dig A i := ⟨_, rfl⟩
          obtain ⟨b, hb⟩ : ∃ b, b = dig Bn k := ⟨_, rfl⟩
          have hdl : d < 256 := by rw [hd]; exact h3 _ (List.getElem_mem hpl)
          have hal : a < 256 := by rw [ha]; exact dig_lt _ _
          have hbl : b < 256 := by rw [hb]; exact dig_lt _ _
          obtain ⟨ab, hab⟩ : ∃ ab, ab = a * b := ⟨_, rfl⟩
          have habl : ab ≤ 255 * 255 := by rw [hab]; exact Nat.mul_le_mul (by omega) (by omega)
          obtain ⟨s, hs⟩ : ∃ s, s = d + ab + c := ⟨_, rfl⟩
          obtain ⟨x, hx⟩ : ∃ x, x = s % 256 := ⟨_, rfl⟩
          obtain ⟨u, hu⟩ : ∃ u, u = s / 256 := ⟨_, rfl⟩
          have hcell := h1.cell p hpl
          rw [← hd] at hcell
          have hfree : wr.frozen? ⟨g, p, none⟩ = false := Blk.frozen h1 p
          have QA : Hid (∀ q, Calls Try.prog 34 #[.slice (some ⟨g1, 0, none⟩) m1 c1, .int .i64 (i : Int)] (wr.drewN q) fun e w' => e = .returned (.int .i64 (a : Int)) ∧ w' = wr.drewN q) := fun q => by
            have := digit_any B1 g1 m1 c1 l1 i (wr.drewN q) (HO1.out.below (hbwi.trans ((bel_dn wr q).mono hbwi.size))) HM1.out (by omega) (by omega)
            rw [← HAE.out, ← ha] at this
            exact this.mono fun e w' ⟨he, hw⟩ => ⟨he, hw.symm⟩
          have QB : Hid (∀ q, Calls Try.prog 34 #[.slice (some ⟨g2, 0, none⟩) m2 c2, .int .i64 (k : Int)] (wr.drewN q) fun e w' => e = .returned (.int .i64 (b : Int)) ∧ w' = wr.drewN q) := fun q => by
            have := digit_any B2 g2 m2 c2 l2 k (wr.drewN q) (HO2.out.below (hbwi.trans ((bel_dn wr q).mono hbwi.size))) HM2.out (by omega) (by omega)
            rw [← HBE.out, ← hb] at this
            exact this.mono fun e w' ⟨he, hw⟩ => ⟨he, hw.symm⟩
          have hpn : p < n1 := by have := HN.out; omega
          have hpi : (p : Int) < (n1 : Int) := by omega
          have hp0 : (0 : Int) ≤ (p : Int) := by omega
          have HP := Lib.hid hp
          have HSS := Lib.hid (And.intro hs (And.intro hx hu))
          have HDD := Lib.hid (And.intro hd (And.intro ha (And.intro hb hab)))
          have hs16 : s < 70000 := by omega
          have HH := Lib.hid (And.intro h1 (And.intro h2 (And.intro h3 (And.intro h4 (And.intro h5 (And.intro h6 (And.intro h7 h8)))))))
          have e4 : (i : Int) + (k : Int) = (p : Int) := by omega
          have e5 : (s : Int) % 256 = (x : Int) := by omega
          have e6 : (s : Int) / 256 = (u : Int) := by omega
          have w1 : IntKind.i64.wrap ((i : Int) + (k : Int)) = (p : Int) := by rw [e4]; exact IntWalk.i64_in _ (by omega)
          have e7 : (a : Int) * (b : Int) = (ab : Int) := by rw [hab]; simp
          have w2 : IntKind.i64.wrap ((a : Int) * (b : Int)) = (ab : Int) := by rw [e7]; exact IntWalk.i64_in _ (by omega)
          obtain ⟨tt, htt⟩ : ∃ tt : Nat, (d : Int) + (ab : Int) = (tt : Int) := ⟨d + ab, by omega⟩
          have e8 : (tt : Int) + (c : Int) = (s : Int) := by omega
          have w3 : IntKind.i64.wrap ((d : Int) + (ab : Int)) = (tt : Int) := by rw [htt]; exact IntWalk.i64_in _ (by omega)
          have w4 : IntKind.i64.wrap ((tt : Int) + (c : Int)) = (s : Int) := by rw [e8]; exact IntWalk.i64_in _ (by omega)
          have hgl : g < wr.heap.size := Blk.lt h1
          clear h1 h2 h3 h4 h5 h6 h7 h8 hp hs hx hu hd ha hb hab hmi e7 e8 htt hbwi hqk
          have HWW := Lib.hid (And.intro w1 (And.intro w2 (And.intro w3 w4)))
          clear w1 w2 w3 w4
          rcases Nat.lt_or_ge k m2 with hkl | hkl
          · have d1 : decide ((k : Int) < (m2 : Int)) = true := by simp; omega
            have d1n : decide (k < m2) = true := by simp; omega
            clear hcont hkl hkm
            go_upto_region 10 with fail
            obtain ⟨w1, w2, w3, w4⟩ := HWW.out
            go_quiet ((go_at_call 34; first | (with_reducible exact Calls.quiet_of_same (QA.out _)) | (with_reducible exact Calls.quiet_of_same (QB.out _))))
            clear w1 w2 w3 w4
            go_wp2_with fail
            go_roundg (m2 - k)
            case measure => have := HQK.out; omega
            case rel =>
              obtain ⟨h1, h2, h3, h4, h5, h6, h7, h8⟩ := HH.out
              obtain ⟨hd, ha, hb, hab⟩ := HDD.out
              obtain ⟨hs, hx, hu⟩ := HSS.out
              refine ⟨k + 1, u, rfl, by go_num, by have := HQK.out; omega, ?_⟩
              exact MI.next (wr := wr.drewN nq) (s := s) (c := c) h1 h2 h3 h4 h5 h6 h7 (h8.trans ((bel_dn wr nq).mono (Nat.le_of_lt hgl))) HP.out hpl (by rw [hs, hab, hd, ha, hb]) hx hu HBn.out (Nat.le_refl _)
          · have hc0 : 0 < c := by omega
            have d1 : decide ((k : Int) < (m2 : Int)) = false := by simp; omega
            have d1n : decide (k < m2) = false := by simp; omega
            have d2 : decide ((0 : Int) < (c : Int)) = true := by simp; omega
            have d2n : decide (0 < c) = true := by simp; omega
            clear hcont hkl hkm hc0
            go_upto_region 10 with fail
            obtain ⟨w1, w2, w3, w4⟩ := HWW.out
            go_quiet ((go_at_call 34; first | (with_reducible exact Calls.quiet_of_same (QA.out _)) | (with_reducible exact Calls.quiet_of_same (QB.out _))))
            clear w1 w2 w3 w4
            go_wp2_with fail
            go_roundg (m2 - k)
            case measure => have := HQK.out; omega
            case rel =>
              obtain ⟨h1, h2, h3, h4, h5, h6, h7, h8⟩ := HH.out
              obtain ⟨hd, ha, hb, hab⟩ := HDD.out
              obtain ⟨hs, hx, hu⟩ := HSS.out
              refine ⟨k + 1, u, rfl, by go_num, by have := HQK.out; omega, ?_⟩
              exact MI.next (wr := wr.drewN nq) (s := s) (c := c) h1 h2 h3 h4 h5 h6 h7 (h8.trans ((bel_dn wr nq).mono (Nat.le_of_lt hgl))) HP.out hpl (by rw [hs, hab, hd, ha, hb]) hx hu HBn.out (Nat.le_refl _)
        · have hkm : m2 ≤ k := by omega
          obtain rfl : c = 0 := by omega
          have HOUT := Lib.hid (HMI.out.outer hkm (by omega) HBn.out)
          have d1 : decide ((k : Int) < (m2 : Int)) = false := by simp; omega
          have d1n : decide (k < m2) = false := by simp; omega
          clear hcont h1 h2 h3 h4 h5 h6 h7 h8 hmi HMI
          go_wp2_with fail
          go_roundg (m1 - (i + 1))
          case measure => omega
          case rel => exact ⟨i + 1, by go_num, by omega, HOUT⟩
    · obtain rfl : i = m1 := by omega
      obtain ⟨D, h1, h2, h3, h4, h5, h6⟩ := hrel.out
      have d0 : decide ((i : Int) < (i : Int)) = false := by simp
      obtain ⟨W3, hmk3, hob3, hbw3⟩ := bytes_made n (by have := HN.out; omega) wr
      have HLV : Hid (lv (D.take n) = A * Bn) := by
        unfold Hid
        have hAm : A % 256 ^ i = A := Nat.mod_eq_of_lt HA.out
        rw [hAm] at h4
        rw [lv_all D n h2 ?_, h4]
        rw [h4, HN.out.1, Nat.pow_add]
        exact Nat.mul_lt_mul'' HA.out HBn.out
      have hbwo : Below g W0 W3 := h6.trans (hbw3.mono (Nat.le_of_lt (Blk.lt h1)))
      have hri3 : RI W3 g D := h1.below hbw3
      obtain ⟨g3, hg3⟩ : ∃ g3, g3 = wr.heap.size := ⟨_, rfl⟩
      have hg3w := hg3
      have hgg : g < g3 := by rw [hg3w]; exact Blk.lt h1
      rw [← hg3] at hob3
      have HO3 := Lib.hid hob3
      have HRI3 := Lib.hid hri3
      have HBW3 := Lib.hid hbwo
      have HDL := Lib.hid (And.intro h2 h3)
      have HG3 := Lib.hid hg3w
      have hnb : n ≤ 2000 := by have := HN.out; omega
      have hl3 : g3 < W3.heap.size := (hob3.1.lt _ rfl).2
      rw [← hg3] at hmk3
      clear h1 h2 h3 h4 h5 h6 hrel hob3 hbw3 hbwo hri3 hg3 hg3w
      go_wp2_with fail
      go_loopg [12] n (fun q iv wx => ∃ (j : Nat) (ol : List Nat), iv = .int .i64 (j : Int) ∧ q + j = n ∧ Hid (OB wx g3 (.slice (some ⟨g3, 0, none⟩) n n) ol ∧ ol.length = n ∧ natOf ol = lv (D.take j) ∧ (∀ y (h : y < ol.length), y < n - j → ol[y]'h = 0) ∧ RI wx g D ∧ Below g W0 wx))
      case atStart => exact ⟨0, _, rfl, rfl, HO3.out, by simp, by rw [natOf_zeros]; simp [lv], by intro y hy _; simp, HRI3.out, HBW3.out⟩
      case round =>
        obtain ⟨j, ol, rfl, hqj, hrel⟩ := hrel
        obtain ⟨o1, o2, o3, o4, o5, o6⟩ := hrel.out
        clear a0 a1 b0 b1
        by_cases hjn : j < n
        · have d1 : decide ((j : Int) < (n : Int)) = true := by simp; omega
          have d1n : decide (j < n) = true := by simp; omega
          have hjl : j < D.length := by have := HDL.out.1; omega
          obtain ⟨x, hx⟩ : ∃ x, x = D[j]'hjl := ⟨_, rfl⟩
          have hx256 : x < 256 := by rw [hx]; exact HDL.out.2 _ (List.getElem_mem hjl)
          have hc := o5.cell j hjl
          rw [← hx] at hc
          have e5 : IntKind.u8.wrap (x : Int) = (x : Int) := by simp [IntKind.wrap, IntKind.bits, IntKind.signed]; omega
          obtain ⟨y, hy⟩ : ∃ y : Nat, n = y + j + 1 := ⟨n - 1 - j, by omega⟩
          have e1 : (n : Int) - 1 - (j : Int) = (y : Int) := by omega
          have hyn : (y : Int) < (n : Int) := by omega
          have hjn1 : (j : Int) < (n1 : Int) := by have := HN.out; omega
          have hyl : y < ol.length := by omega
          have hco := o1.cell y hyl
          have hfo := o1.free y
          have HYY := Lib.hid (And.intro hy hx)
          have HOO := Lib.hid (And.intro o1 (And.intro o2 (And.intro o3 (And.intro o4 (And.intro o5 o6)))))
          have hgl3 : g3 < wr.heap.size := (o1.1.lt _ rfl).2
          clear hy hx o1 o2 o3 o4 o5 o6 hrel
          go_wp2_with fail
          go_roundg (n - (j + 1))
          case measure => omega
          case rel =>
            obtain ⟨o1, o2, o3, o4, o5, o6⟩ := HOO.out
            obtain ⟨hy, hx⟩ := HYY.out
            refine ⟨j + 1, ol.set y x, by go_num, by omega, o1.store y x hx256, by rw [List.length_set]; exact o2, ?_, fun z hz hzn => ?_, Blk.far o5 (p := ⟨g3, y, none⟩) (by simp; omega) _, o6.setCell (p := ⟨g3, y, none⟩) (by simp; omega) _⟩
            · rw [natOf_set ol y x hyl (o4 y hyl (by omega)), o3, o2, show n - 1 - y = j by omega, lv_take D j hjl, ← hx]
            · rw [List.getElem_set_ne (by omega)]
              exact o4 z (by simpa using hz) (by omega)
        · obtain rfl : j = n := by omega
          have d1 : decide ((j : Int) < (j : Int)) = false := by simp
          obtain ⟨⟨e0, e1, f0, f1⟩, hk2, hbw2⟩ := HX.out wr o6
          have HOF := Lib.hid (of_any false _ _ _ ol wr o1.bsl (by omega))
          have HV : Hid (natOf ol = A * Bn) := by unfold Hid; rw [o3]; exact HLV.out
          have HB9 := Lib.hid hbw2
          have HK9 := Lib.hid hk2
          have hl2 := hk2.lt
          clear o1 o2 o3 o4 o5 o6 hrel hk2 hbw2
          go_wp2_with fail
          refine HOF.out.mono ?_
          rintro e w5 ⟨v5, rfl, hsi, hb5⟩
          have HSI := Lib.hid (hsi.base (C := w.heap.size + 1 + 1 + 1) (by omega))
          have HB5 := Lib.hid (HB9.out.trans (hb5.mono HB9.out.size))
          obtain ⟨x0, x1, y0, y1⟩ := blk2 (HK9.out.below hb5 hl2)
          obtain ⟨g5, c5, hv5⟩ := hsi.lit2
          obtain ⟨r5, hr5⟩ : ∃ r, r = (strip ol).length := ⟨_, rfl⟩
          rw [← hr5, show negOf false ol = false from rfl] at hv5
          rw [show negOf false ol = false from rfl, hv5] at HSI
          subst hv5
          clear hsi hb5 hr5
          go_wp2
          refine bodyPost_ret (v := .agg #[.bool false, .slice (some ⟨g5, 0, none⟩) r5 c5]) (by simp [results, Try.results31, go_sem, x0, x1]) rfl (NumPost.pos (num_fin (l := strip ol) (by omega) HSI.out ?_ HB5.out))
          simp [intOf2, natOf_strip, HV.out]
end Go.Proofs.Ytndeolcamgnmdaa
namespace Go.Proofs.Ytndeolcamgnmdaa
open Go.RowKit
attribute [local go_sem ↓] Go.wp_at_zero Go.wp_at_succ
theorem two_cellsL {w W : World} {t : TypeId} {a b c d : Value} (h : Below (w.heap.size + 1 + 1) ((w.alloc (.cells #[a, b] t)).alloc (.cells #[c, d] t)) W) :
    W.cell? ⟨w.heap.size, 0, none⟩ = some a ∧ W.cell? ⟨w.heap.size, 1, none⟩ = some b := by
  obtain ⟨h1, _⟩ := two_alloc h
  exact ⟨(blk2 h1).1, (blk2 h1).2.1⟩
theorem two_cellsS {w W : World} {t : TypeId} {a b c d : Value} (h : Below (w.heap.size + 1 + 1) ((w.alloc (.cells #[a, b] t)).alloc (.cells #[c, d] t)) W) (u u' : Value) :
    ((W.setCell ⟨w.heap.size + 1, 0, none⟩ u).setCell ⟨w.heap.size + 1, 1, none⟩ u').cell? ⟨w.heap.size, 0, none⟩ = some a ∧ ((W.setCell ⟨w.heap.size + 1, 0, none⟩ u).setCell ⟨w.heap.size + 1, 1, none⟩ u').cell? ⟨w.heap.size, 1, none⟩ = some b := by
  obtain ⟨h1, _⟩ := two_alloc h
  have k := (h1.far (p := ⟨w.heap.size + 1, 0, none⟩) (by simp) u).far (p := ⟨w.heap.size + 1, 1, none⟩) (by simp) u'
  exact ⟨(blk2 k).1, (blk2 k).2.1⟩
theorem pow_lenL (k : Nat) (hk : k ≤ 7900) {l : List Nat} (hh : l.head? ≠ some 0) (hn : natOf l = 2 ^ k) : l.length ≤ 1000 := by
  have h : natOf l < 256 ^ (k / 8 + 1) := by
    rw [hn, show (256 : Nat) = 2 ^ 8 by rfl, ← Nat.pow_mul]
    exact Nat.pow_lt_pow_right (by omega) (by omega)
  have := head_nat hh h
  omega
set_option maxRecDepth 100000 in
set_option maxHeartbeats 4000000 in
theorem spec_lsh_pos (B : Nat) (v : Value) (l : List Nat) (k : Nat) (w : World) (hv : SInt w B v false l) (hl : l.length ≤ 1000) (hk : k ≤ 7900) (h0 : l ≠ []) :
    Calls Try.prog 15 #[v, .int .i64 (k : Int)] w (PosPost (natOf l * 2 ^ k) w) := by
  have HV := Lib.hid hv
  obtain ⟨g1, c1, rfl⟩ := hv.lit2
  obtain ⟨m1, hm1⟩ : ∃ m, m = l.length := ⟨_, rfl⟩
  have hm0 : m1 ≠ 0 := fun e => h0 (List.eq_nil_of_length_eq_zero (by omega))
  rw [← hm1] at HV ⊢
  have C0 := Lib.hid (Below.refl (w.heap.size + 1 + 1) ((w.alloc (.cells #[.bool false, .slice (some ⟨g1, 0, none⟩) m1 c1] 24)).alloc (.cells #[.bool false, .slice none 0 0] 24)))
  have HL := Lib.hid hl
  clear hv hm1 hl h0
  go_enter Try.func15, Try.ntmps15
  go_wp2_with fail
  refine (zero_any false _ m1 c1 _).mono ?_
  rintro e w1 ⟨he, hb1⟩
  have e0 : ((m1 : Int) == 0) = false := by rw [beq_eq_false_iff_ne]; omega
  rw [e0] at he
  subst he
  have C1 := Lib.hid (C0.out.trans (hb1.mono (by simp)))
  obtain ⟨x0, x1⟩ := two_cellsL C1.out
  clear hb1 e0
  go_wp2_with fail
  have C2 := Lib.hid C1.out.drew
  go_region_held3 (fun W => W.cell? ⟨w.heap.size, 0, none⟩ = some (.bool false) ∧ W.cell? ⟨w.heap.size, 1, none⟩ = some (.slice (some ⟨g1, 0, none⟩) m1 c1))
    (first | (with_reducible exact two_cellsL C4.out) | (with_reducible exact two_cellsS C4.out _ _) | (with_reducible exact two_cellsL C3.out) | (with_reducible exact two_cellsL C2.out) | (with_reducible exact two_cellsL C1.out) | go_keep)
    (first
    | (go_at_call 17; refine (spec_power k _ (by omega)).mono ?_; rintro e w2 hpp; obtain ⟨v2, l2, rfl, hsi, hnl, hb2⟩ := hpp.pos; have C3 := Lib.hid (C2.out.trans (hb2.mono (two_alloc C2.out).2.2.1)); have HS2 := Lib.hid hsi; have HN2 := Lib.hid hnl; obtain ⟨g2, c2, hv2⟩ := hsi.lit2; obtain ⟨m2, hm2x⟩ : ∃ m, m = l2.length := ⟨_, rfl⟩; rw [← hm2x] at hv2; subst hv2; have HL2 := Lib.hid (pow_lenL k hk (sint_head hsi) hnl); clear hpp hsi hnl hb2 hm2x)
    | (go_at_call 31; refine (spec_mul_pos _ _ _ _ l l2 _ (HV.out.below (two_alloc C3.out).2.2.2) HS2.out HL.out HL2.out).mono ?_; rintro e w3 ⟨v3, l3, rfl, hsi, hnl, hb3⟩; have C4 := Lib.hid (C3.out.trans (hb3.mono (two_alloc C3.out).2.2.1)); have HS3 := Lib.hid (hsi.base (C := w.heap.size + 1 + 1) (two_alloc C3.out).2.2.1); have HN3 := Lib.hid hnl; obtain ⟨g3, c3, hv3⟩ := hsi.lit2; obtain ⟨m3, hm3x⟩ : ∃ m, m = l3.length := ⟨_, rfl⟩; rw [← hm3x] at hv3; rw [hv3] at HS3; subst hv3; obtain ⟨k0, k1, f0, f1⟩ := blk2 (two_alloc C4.out).2.1; clear hsi hnl hb3 hm3x))
  all_goals
    go_wp2
    refine bodyPost_ret (v := .agg #[.bool false, .slice (some ⟨g3, 0, none⟩) m3 c3]) (by simp [results, Try.results15, go_sem, k0, k1]) rfl (NumPost.pos (num_fin (l := l3) (by omega) HS3.out ?_ (two_alloc C4.out).2.2.2))
    simp [intOf2, HN3.out, HN2.out]
end Go.Proofs.Ytndeolcamgnmdaa
namespace Go.Proofs.Ytndeolcamgnmdaa
open Go.RowKit
attribute [local go_sem ↓] Go.wp_at_zero Go.wp_at_succ
/-- A world behind another one whose first R blocks stay. -/
structure Ch (R : Nat) (W0 W : World) : Prop where
  b : Below R W0 W
  s : R ≤ W.heap.size
theorem Ch.al {R : Nat} {W0 W : World} (h : Ch R W0 W) (o : Obj) : Ch R W0 (W.alloc o) := ⟨h.b.alloc h.s o, by have := h.s; simp; omega⟩
theorem Ch.dr {R : Nat} {W0 W : World} (h : Ch R W0 W) : Ch R W0 W.drew := ⟨h.b.drew, h.s⟩
theorem Ch.to {R : Nat} {W0 W W' : World} (h : Ch R W0 W) (hb : Below W.heap.size W W') : Ch R W0 W' := ⟨h.b.trans (hb.mono h.s), Nat.le_trans h.s hb.size⟩
theorem al1 {X w' : World} {t : TypeId} {cs : Array Value} (hb : Below (X.alloc (.cells cs t)).heap.size (X.alloc (.cells cs t)) w') : Blk w' X.heap.size t cs := (Blk.new X t cs).below hb (by simp)
theorem al1d {X w' : World} {t : TypeId} {cs : Array Value} (hb : Below (X.alloc (.cells cs t)).drew.heap.size (X.alloc (.cells cs t)).drew w') : Blk w' X.heap.size t cs := ((Blk.new X t cs).drew).below hb (by simp)
theorem al2 {X w' : World} {t t' : TypeId} {cs ds : Array Value} (hb : Below ((X.alloc (.cells cs t)).alloc (.cells ds t')).heap.size ((X.alloc (.cells cs t)).alloc (.cells ds t')) w') : Blk w' X.heap.size t cs ∧ Blk w' (X.heap.size + 1) t' ds :=
  ⟨((Blk.new X t cs).alloc _).below hb (by simp; omega), (Blk.new_at (X.alloc (.cells cs t)) t' ds (n := X.heap.size + 1) (by simp)).below hb (by simp)⟩
theorem al2d {X w' : World} {t t' : TypeId} {cs ds : Array Value} (hb : Below ((X.alloc (.cells cs t)).alloc (.cells ds t')).drew.heap.size ((X.alloc (.cells cs t)).alloc (.cells ds t')).drew w') : Blk w' X.heap.size t cs ∧ Blk w' (X.heap.size + 1) t' ds :=
  ⟨(((Blk.new X t cs).alloc _).drew).below hb (by simp; omega), ((Blk.new_at (X.alloc (.cells cs t)) t' ds (n := X.heap.size + 1) (by simp)).drew).below hb (by simp)⟩
def box2 (w : World) (t : TypeId) (a b c d : Value) : World := (w.alloc (.cells #[a, b] t)).alloc (.cells #[c, d] t)
theorem box2_at {w W : World} {t : TypeId} {a b c d : Value} (h : Ch (w.heap.size + 1 + 1) (box2 w t a b c d) W) : Blk W w.heap.size t #[a, b] ∧ Blk W (w.heap.size + 1) t #[c, d] ∧ Below w.heap.size w W := by
  obtain ⟨h1, h2⟩ := h
  unfold box2 at h1
  obtain ⟨k1, k2, k3, k4⟩ := two_alloc h1
  exact ⟨k1, k2, k4⟩
theorem box2_c {w W : World} {t : TypeId} {a b c d : Value} (h : Ch (w.heap.size + 1 + 1) (box2 w t a b c d) W) : W.cell? ⟨w.heap.size, 0, none⟩ = some a ∧ W.cell? ⟨w.heap.size, 1, none⟩ = some b := by
  obtain ⟨h1, _⟩ := box2_at h
  exact ⟨(blk2 h1).1, (blk2 h1).2.1⟩
theorem pow_len (k : Nat) (hk : k ≤ 7200) {l : List Nat} (hh : l.head? ≠ some 0) (hn : natOf l = 2 ^ k) : l.length ≤ 1000 := by
  have h : natOf l < 256 ^ (k / 8 + 1) := by
    rw [hn, show (256 : Nat) = 2 ^ 8 by rfl, ← Nat.pow_mul]
    exact Nat.pow_lt_pow_right (by omega) (by omega)
  have := head_nat hh h
  omega
theorem bel_up {X W : World} {o : Obj} (h : Below (X.alloc o).heap.size (X.alloc o) W) : Below X.heap.size X W := ((Below.refl _ X).alloc (Nat.le_refl _) o).trans (h.mono (by simp))
theorem bel_up1 {X W : World} (h : Below X.heap.size X W) : Below X.heap.size X W := h
theorem keep_set {w W : World} {a b : Value} (h : W.cell? ⟨w.heap.size, 0, none⟩ = some a ∧ W.cell? ⟨w.heap.size, 1, none⟩ = some b) (p : Addr) (u : Value) (hp : w.heap.size ≠ p.block) : (W.setCell p u).cell? ⟨w.heap.size, 0, none⟩ = some a ∧ (W.setCell p u).cell? ⟨w.heap.size, 1, none⟩ = some b := by
  have e : ∀ o, (W.setCell p u).cell? ⟨w.heap.size, o, none⟩ = W.cell? ⟨w.heap.size, o, none⟩ := fun o => by
    simp only [World.cell?, Below.heap_setCell W p u w.heap.size hp]
  rw [e, e]
  exact h
theorem keep_dr {w W : World} {a b : Value} (h : W.cell? ⟨w.heap.size, 0, none⟩ = some a ∧ W.cell? ⟨w.heap.size, 1, none⟩ = some b) : W.drew.cell? ⟨w.heap.size, 0, none⟩ = some a ∧ W.drew.cell? ⟨w.heap.size, 1, none⟩ = some b := h
theorem keep_al {w W : World} {a b : Value} (h : W.cell? ⟨w.heap.size, 0, none⟩ = some a ∧ W.cell? ⟨w.heap.size, 1, none⟩ = some b) (o : Obj) : (W.alloc o).cell? ⟨w.heap.size, 0, none⟩ = some a ∧ (W.alloc o).cell? ⟨w.heap.size, 1, none⟩ = some b := by
  have hl : w.heap.size < W.heap.size := World.block_lt_of_cell? W _ h.1
  have e : ∀ x, (W.alloc o).cell? ⟨w.heap.size, x, none⟩ = W.cell? ⟨w.heap.size, x, none⟩ := fun x => by
    simp only [World.cell?, Below.heap_alloc W o w.heap.size hl]
  rw [e, e]
  exact h
theorem Ch.st {R : Nat} {W0 W : World} (h : Ch R W0 W) (p : Addr) (u : Value) (hp : R ≤ p.block) : Ch R W0 (W.setCell p u) := ⟨h.b.setCell hp u, by rw [World.size_setCell]; exact h.s⟩
theorem blk_far {w : World} {g : Nat} {t : TypeId} {cs : Array Value} (h : Blk w g t cs) (p : Addr) (u : Value) (hp : g ≠ p.block) : Blk (w.setCell p u) g t cs := h.far hp u
theorem two_put {w : World} {g : Nat} {t : TypeId} {a b : Value} (h : Blk w g t #[a, b]) (u v : Value) : Blk ((w.setCell ⟨g, 0, none⟩ u).setCell ⟨g, 1, none⟩ v) g t #[u, v] := by
  have := (h.put 0 u).put 1 v
  simpa using this
theorem sint_al {W : World} {B : Nat} {v : Value} {neg : Bool} {l : List Nat} (h : SInt W B v neg l) (o : Obj) : SInt (W.alloc o) B v neg l := h.below ((Below.refl _ _).alloc (Nat.le_refl _) _)
theorem sint_set {W : World} {B g n c : Nat} {neg : Bool} {l : List Nat} (h : SInt W B (.agg #[.bool neg, .slice (some ⟨g, 0, none⟩) n c]) neg l) (p : Addr) (u : Value) (hp : g ≠ p.block) : SInt (W.setCell p u) B (.agg #[.bool neg, .slice (some ⟨g, 0, none⟩) n c]) neg l := by
  obtain ⟨vs, e, ho, h3, h4⟩ := h
  simp only [Value.agg.injEq, Array.mk.injEq, List.cons.injEq, and_true, true_and] at e
  subst e
  exact ⟨_, rfl, ho.set rfl hp u, h3, h4⟩
theorem bel_al2 (X : World) (o o' : Obj) : Below X.heap.size X ((X.alloc o).alloc o') := ((Below.refl _ _).alloc (Nat.le_refl _) _).alloc (by simp) _
theorem bel_set {B : Nat} {a w : World} (h : Below B a w) (p : Addr) (u : Value) (hp : B ≤ p.block) : Below B a (w.setCell p u) := h.setCell hp u
theorem bel_al {B : Nat} {a w : World} (h : Below B a w) (o : Obj) (hB : B ≤ w.heap.size) : Below B a (w.alloc o) := h.alloc hB o
theorem sint_g {W : World} {B g n c : Nat} {neg : Bool} {l : List Nat} (h : SInt W B (.agg #[.bool neg, .slice (some ⟨g, 0, none⟩) n c]) neg l) : B ≤ g ∧ g < W.heap.size := by
  obtain ⟨vs, e, ho, _, _⟩ := h
  simp only [Value.agg.injEq, Array.mk.injEq, List.cons.injEq, and_true, true_and] at e
  subst e
  obtain ⟨g', c', e, h1, h2, _⟩ := ho.form
  injection e with e
  injection e with e
  injection e with e
  subst e
  exact ⟨h1, h2⟩
set_option maxRecDepth 100000 in
set_option maxHeartbeats 60000000 in
theorem spec_rsh_pos (B : Nat) (v : Value) (l : List Nat) (k : Nat) (w : World) (hv : SInt w B v false l) (hl : l.length ≤ 900) (hk : k ≤ 8 * l.length) :
    Calls Try.prog 13 #[v, .int .i64 (k : Int)] w (PosPost (natOf l / 2 ^ k) w) := by
  have HV := Lib.hid hv
  obtain ⟨g1, c1, rfl⟩ := hv.lit2
  obtain ⟨m1, hm1⟩ : ∃ m, m = l.length := ⟨_, rfl⟩
  rw [← hm1] at HV ⊢
  obtain ⟨W0, hW0⟩ : ∃ W0, W0 = box2 w 24 (.bool false) (.slice (some ⟨g1, 0, none⟩) m1 c1) (.bool false) (.slice none 0 0) := ⟨_, rfl⟩
  have K0 : Hid (Ch (w.heap.size + 1 + 1) (box2 w 24 (.bool false) (.slice (some ⟨g1, 0, none⟩) m1 c1) (.bool false) (.slice none 0 0)) W0) := by rw [hW0]; exact ⟨Below.refl _ _, by simp [box2]⟩
  have hd : decide ((8 : Int) * (m1 : Int) < (k : Int)) = false := by simp; omega
  have hd2 : decide (8 * m1 < k) = false := by simp; omega
  have hk2 : k ≤ 7200 := by omega
  have hm2 : m1 ≤ 900 := by omega
  have HL := Lib.hid hl
  have HW0 := Lib.hid hW0
  have Q0 : Hid (W0.heap.size = w.heap.size + 2) := by unfold Hid; rw [hW0]; simp [box2]
  have q0 : w.heap.size + 1 < W0.heap.size := by rw [Q0.out]; omega
  clear hv hm1 hl hk hW0
  go_enter Try.func13, Try.ntmps13
  go_upto_region 5 with fail
  rw [show (w.alloc (.cells #[.bool false, .slice (some ⟨g1, 0, none⟩) m1 c1] 24)).alloc (.cells #[.bool false, .slice none 0 0] 24) = W0 from HW0.out.symm]
  go_cut [5] (fun v wx => ∃ p g3 c3 r3 k1, v = .pointer (some ⟨p, 0, none⟩) ∧ Blk wx p 24 #[.bool false, .slice (some ⟨g3, 0, none⟩) r3 c3] ∧ SInt wx (w.heap.size + 1 + 1) (.agg #[.bool false, .slice (some ⟨g3, 0, none⟩) r3 c3]) false k1 ∧ natOf k1 = natOf l / 2 ^ k ∧ Hid (Ch (w.heap.size + 1 + 1) (box2 w 24 (.bool false) (.slice (some ⟨g1, 0, none⟩) m1 c1) (.bool false) (.slice none 0 0)) wx))
  case rest =>
    obtain ⟨p, g3, c3, r3, k1, rfl, hk, hs, hn, hch⟩ := hcut
    obtain ⟨k0, k1', _, _⟩ := blk2 hk
    obtain ⟨x0, x1, f0, f1⟩ := blk2 (box2_at hch.out).2.1
    have HS := Lib.hid hs
    clear hs hk
    go_wp2
    refine bodyPost_ret (v := .agg #[.bool false, .slice (some ⟨g3, 0, none⟩) r3 c3]) (by simp [results, Try.results13, go_sem, x0, x1]) rfl (NumPost.pos (num_fin (l := k1) (by omega) HS.out ?_ (box2_at hch.out).2.2))
    simp [intOf2, hn]
  case first =>
  have K1 := Lib.hid K0.out.dr
  go_region_held3 (fun W => W.cell? ⟨w.heap.size, 0, none⟩ = some (.bool false) ∧ W.cell? ⟨w.heap.size, 1, none⟩ = some (.slice (some ⟨g1, 0, none⟩) m1 c1))
    (((repeat (first | (with_reducible refine keep_al ?_ _) | (with_reducible refine keep_set ?_ _ _ ?_) | (with_reducible refine keep_dr ?_))); (first | (with_reducible exact box2_c K3.out) | (with_reducible exact box2_c K2.out) | (with_reducible exact box2_c K0.out)); (all_goals (simp; try omega))))
    (first
    | (go_at_call 17; refine (spec_power k _ (by omega)).mono ?_; rintro e w2 hpp; obtain ⟨v2, l2, rfl, hsi, hnl, hb2⟩ := hpp.pos; have K2 : Hid (Ch (w.heap.size + 1 + 1) (box2 w 24 (.bool false) (.slice (some ⟨g1, 0, none⟩) m1 c1) (.bool false) (.slice none 0 0)) w2) := (by first | (with_reducible exact Lib.hid (K1.out.to hb2)) | (with_reducible exact Lib.hid ((K1.out.al _).to hb2)) | (with_reducible exact Lib.hid (((K1.out.al _).al _).to hb2)) | (with_reducible exact Lib.hid ((K0.out.al _).dr.to hb2)) | (with_reducible exact Lib.hid (((K0.out.al _).al _).dr.to hb2))); (first | (with_reducible have ZA := al2 hb2) | (with_reducible have ZA := al2d hb2) | (with_reducible have ZA1 := al1 hb2) | (with_reducible have ZA1 := al1d hb2) | skip); (first | (have HZ := ZA; clear ZA; obtain ⟨ZA1, ZA2⟩ := HZ) | skip); have HS2 := Lib.hid hsi; have HN2 := Lib.hid hnl; obtain ⟨g2, c2, hv2⟩ := hsi.lit2; obtain ⟨m2, hm2x⟩ : ∃ m, m = l2.length := ⟨_, rfl⟩; rw [← hm2x] at hv2; subst hv2; have HL2 := Lib.hid (pow_len k hk2 (sint_head hsi) hnl); have q2 := hb2.size; (try simp at q2); clear hpp hsi hnl hb2 hm2x)
    | (go_at_call 28; refine (spec_floor_pos _ _ _ _ l l2 _ (HV.out.below ?sa) (HS2.out.below ?sb) (by have := HL.out; omega) HL2.out (by rw [HN2.out]; exact Nat.pow_pos (by omega))).mono ?_; (case sa => first | (with_reducible exact (box2_at K2.out).2.2) | (with_reducible exact (box2_at (K2.out.al _)).2.2) | (with_reducible exact (box2_at ((K2.out.al _).al _)).2.2)); (case sb => first | (with_reducible exact Below.refl _ _) | (with_reducible exact (Below.refl _ _).alloc (Nat.le_refl _) _) | (with_reducible exact bel_al2 _ _ _)); rintro e w3 ⟨u1, u2, k1, k2, rfl, hu1, hu2, hn1, hn2, hb3⟩; have K3 : Hid (Ch (w.heap.size + 1 + 1) (box2 w 24 (.bool false) (.slice (some ⟨g1, 0, none⟩) m1 c1) (.bool false) (.slice none 0 0)) w3) := (by first | (with_reducible exact Lib.hid (K2.out.to hb3)) | (with_reducible exact Lib.hid ((K2.out.al _).to hb3)) | (with_reducible exact Lib.hid (((K2.out.al _).al _).to hb3)) | (with_reducible exact Lib.hid ((K0.out.al _).dr.to hb3)) | (with_reducible exact Lib.hid (((K0.out.al _).al _).dr.to hb3))); (first | (with_reducible have ZB := al2 hb3) | (with_reducible have ZB := al2d hb3) | (with_reducible have ZB1 := al1 hb3) | (with_reducible have ZB1 := al1d hb3) | skip); (first | (have HZ := ZB; clear ZB; obtain ⟨ZB1, ZB2⟩ := HZ) | skip); have q3 := hb3.size; (try simp at q3); (first | (with_reducible have ZC1 := ZA1.below (bel_up hb3) ZA1.lt) | (with_reducible have ZC1 := ZA1.below (bel_up1 hb3) ZA1.lt) | skip); (first | (with_reducible have ZC2 := ZA2.below (bel_up1 hb3) ZA2.lt) | skip); obtain ⟨g3, c3, hv3⟩ := hu1.lit2; obtain ⟨g4, c4, hv4⟩ := hu2.lit2; obtain ⟨r3, hr3⟩ : ∃ m, m = k1.length := ⟨_, rfl⟩; obtain ⟨r4, hr4⟩ : ∃ m, m = k2.length := ⟨_, rfl⟩; rw [← hr3] at hv3; rw [← hr4] at hv4; subst hv3 hv4; have qg := sint_g hu1; (try simp at qg); have HU1 := Lib.hid (hu1.base (C := w.heap.size + 1 + 1) (by have := K2.out.s; (try simp); omega)); have HN : Hid (natOf k1 = natOf l / 2 ^ k) := (by unfold Hid; rw [hn1, HN2.out]); obtain ⟨x0, x1, xf0, xf1⟩ := blk2 (box2_at K3.out).2.1; have llx := (box2_at K3.out).2.1.lt; (first | (have HY := blk2 ZC1; have llZC1 := ZC1.lt; obtain ⟨y0, y1, yf0, yf1⟩ := HY) | skip); (first | (have HY := blk2 ZC2; have llZC2 := ZC2.lt; obtain ⟨z0, z1, zf0, zf1⟩ := HY) | skip); (first | (have HY := blk2 ZB1; have llZB1 := ZB1.lt; obtain ⟨s0, s1, sf0, sf1⟩ := HY) | skip); (first | (have HY := blk2 ZB2; have llZB2 := ZB2.lt; obtain ⟨t0, t1, tf0, tf1⟩ := HY) | skip); clear hu1 hu2 hn1 hn2 hb3 hr3 hr4))
  all_goals
    go_wp2_with fail
    go_meet
    refine ⟨_, g3, c3, r3, k1, rfl, ?_, ?_, HN.out, ?_⟩
    · ((repeat (first | (with_reducible exact two_put ZB1 _ _) | (with_reducible exact two_put ZB2 _ _) | (with_reducible exact two_put ZC1 _ _) | (with_reducible exact two_put ZC2 _ _) | (with_reducible exact Blk.new _ _ _) | (with_reducible refine Blk.new_at _ _ _ ?_) | (with_reducible refine Blk.alloc ?_ _) | (with_reducible refine blk_far ?_ _ _ ?_))); (all_goals (simp; try omega)))
    · ((repeat (first | (with_reducible exact HU1.out) | (with_reducible refine sint_al ?_ _) | (with_reducible refine sint_set ?_ _ _ ?_))); (all_goals (simp; try omega)))
    · ((repeat (first | (with_reducible exact Lib.hid K3.out) | (with_reducible refine Lib.hid (Ch.al (Hid.out ?_) _)) | (with_reducible refine Lib.hid (Ch.st (Hid.out ?_) _ _ ?_)))); (all_goals (simp; try omega)))
end Go.Proofs.Ytndeolcamgnmdaa
namespace Go.Proofs.Ytndeolcamgnmdaa
open Go.RowKit
attribute [local go_sem ↓] Go.wp_at_zero Go.wp_at_succ
theorem box_pair {w W : World} {t : TypeId} {a b c d : Value} (h : Below (w.heap.size + 1 + 1) ((w.alloc (.cells #[a, b] t)).alloc (.cells #[c, d] t)) W) :
    Blk W w.heap.size t #[a, b] ∧ Blk W (w.heap.size + 1) t #[c, d] ∧ w.heap.size + 1 + 1 ≤ W.heap.size ∧ Below w.heap.size w W :=
  ⟨((Blk.new w t #[a, b]).alloc (.cells #[c, d] t)).below h (by omega), (Blk.new_at (w.alloc (.cells #[a, b] t)) t #[c, d] (n := w.heap.size + 1) (by simp)).below h (by omega), by have := h.size; simpa using this, (((Below.refl _ w).alloc (Nat.le_refl _) _).alloc (by simp) _).trans (h.mono (by omega))⟩
theorem box_cells {w W : World} {t : TypeId} {a b c d : Value} (h : Below (w.heap.size + 1 + 1) ((w.alloc (.cells #[a, b] t)).alloc (.cells #[c, d] t)) W) :
    W.cell? ⟨w.heap.size, 0, none⟩ = some a ∧ W.cell? ⟨w.heap.size, 1, none⟩ = some b ∧ W.cell? ⟨w.heap.size + 1, 0, none⟩ = some c ∧ W.cell? ⟨w.heap.size + 1, 1, none⟩ = some d := by
  obtain ⟨h1, h2, _⟩ := box_pair h
  obtain ⟨e0, e1, _⟩ := blk2 h1
  obtain ⟨f0, f1, _⟩ := blk2 h2
  exact ⟨e0, e1, f0, f1⟩
theorem sgn_sub {n1 n2 : Bool} {l1 l2 : List Nat} (hn1 : n1 = true → l1 ≠ []) (hn2 : n2 = true → l2 ≠ []) (hh1 : l1.head? ≠ some 0) (hh2 : l2.head? ≠ some 0) :
    (sgn (intOf2 n1 l1) ≠ sgn (intOf2 n2 l2) → sgn (intOf2 n1 l1 - intOf2 n2 l2) = if sgn (intOf2 n1 l1) < sgn (intOf2 n2 l2) then -1 else 1) ∧
    (sgn (intOf2 n1 l1) = sgn (intOf2 n2 l2) → sgn (intOf2 n1 l1 - intOf2 n2 l2) = if n1 then sgn ((natOf l2 : Int) - natOf l1) else sgn ((natOf l1 : Int) - natOf l2)) := by
  have e1 := sgn_pos (neg := n1) hh1
  have e2 := sgn_pos (neg := n2) hh2
  have d1 : sgn (intOf2 n1 []) = 0 := sgn_nil
  have d2 : sgn (intOf2 n2 []) = 0 := sgn_nil
  refine ⟨fun h => ?_, fun h => ?_⟩
  · revert h
    generalize intOf2 n1 l1 = x
    generalize intOf2 n2 l2 = y
    unfold sgn
    intro h
    split <;> split <;> (try split) <;> (try split) <;> (try split) <;> (try split) <;> omega
  · cases n1 with
    | true =>
      have h1 := e1 (hn1 rfl)
      cases n2 with
      | true => simp [intOf2]; congr 1; omega
      | false =>
        exfalso
        rw [h1] at h
        by_cases h2 : l2 = []
        · rw [h2, d2] at h; simp at h
        · rw [e2 h2] at h; simp at h
    | false =>
      cases n2 with
      | false => simp [intOf2]
      | true =>
        exfalso
        rw [e2 (hn2 rfl)] at h
        by_cases h2 : l1 = []
        · rw [h2, d1] at h; simp at h
        · rw [e1 h2] at h; simp at h
set_option maxRecDepth 100000 in
set_option maxHeartbeats 4000000 in
theorem cmp_full (B1 B2 : Nat) (v1 v2 : Value) (n1 n2 : Bool) (l1 l2 : List Nat) (w : World) (hv1 : SInt w B1 v1 n1 l1) (hv2 : SInt w B2 v2 n2 l2) :
    Calls Try.prog 16 #[v1, v2] w (OrdPost (intOf2 n1 l1 - intOf2 n2 l2) w) := by
  have HV1 := Lib.hid hv1
  have HV2 := Lib.hid hv2
  obtain ⟨vs1, rfl, ho1, hh1, hn1⟩ := hv1
  obtain ⟨g1, c1, hvs1, _, _, _, _⟩ := ho1.form
  obtain ⟨vs2, rfl, ho2, hh2, hn2⟩ := hv2
  obtain ⟨g2, c2, hvs2, _, _, _, _⟩ := ho2.form
  obtain ⟨m1, hm1⟩ : ∃ m, m = l1.length := ⟨_, rfl⟩
  obtain ⟨m2, hm2⟩ : ∃ m, m = l2.length := ⟨_, rfl⟩
  rw [← hm1] at hvs1
  rw [← hm2] at hvs2
  subst hvs1 hvs2
  obtain ⟨hs1, hs2⟩ := sgn_sub hn1 hn2 hh1 hh2
  obtain ⟨q1, hq1⟩ : ∃ q, q = sgn (intOf2 n1 l1) := ⟨_, rfl⟩
  obtain ⟨q2, hq2⟩ : ∃ q, q = sgn (intOf2 n2 l2) := ⟨_, rfl⟩
  have HQ1 := Lib.hid hq1
  have HQ2 := Lib.hid hq2
  rw [← hq1, ← hq2] at hs1 hs2
  have HS1 := Lib.hid hs1
  have HS2 := Lib.hid hs2
  have HO1 := Lib.hid ho1
  have HO2 := Lib.hid ho2
  have HH1 := Lib.hid hh1
  have HH2 := Lib.hid hh2
  have C0 := Lib.hid (Below.refl (w.heap.size + 1 + 1) ((w.alloc (.cells #[.bool n1, .slice (some ⟨g1, 0, none⟩) m1 c1] 24)).alloc (.cells #[.bool n2, .slice (some ⟨g2, 0, none⟩) m2 c2] 24)))
  clear ho1 ho2 hh1 hh2 hn1 hn2 hm1 hm2 hs1 hs2 hq1 hq2
  have tok1 : True := trivial
  have tok2 : True := trivial
  have tok3 : True := trivial
  have tok4 : True := trivial
  by_cases he : q1 = q2
  · have HQ := Lib.hid (HS2.out he)
    clear HS1 HS2
    subst he
    have hb : (q1 != q1) = false := by simp
    go_enter Try.func16, Try.ntmps16
    go_wp2_with fail
    go_region_held3 (fun W => W.cell? ⟨w.heap.size, 0, none⟩ = some (.bool n1) ∧ W.cell? ⟨w.heap.size, 1, none⟩ = some (.slice (some ⟨g1, 0, none⟩) m1 c1) ∧ W.cell? ⟨w.heap.size + 1, 0, none⟩ = some (.bool n2) ∧ W.cell? ⟨w.heap.size + 1, 1, none⟩ = some (.slice (some ⟨g2, 0, none⟩) m2 c2))
      (first | exact box_cells C2.out | exact box_cells C1.out | exact box_cells C0.out | go_keep)
      (first
      | (go_at_call 32; have _t := tok1; refine (spec_sign _ (HV1.out.below (box_pair C0.out.drew).2.2.2)).mono ?_; rw [← HQ1.out]; rintro e w1 ⟨rfl, hb1⟩; have C1 := Lib.hid (C0.out.drew.trans (hb1.mono (box_pair C0.out.drew).2.2.1)); clear _t tok1 hb1)
      | (go_at_call 32; have _t := tok2; refine (spec_sign _ (HV2.out.below (box_pair C1.out).2.2.2)).mono ?_; rw [← HQ2.out]; rintro e w2 ⟨rfl, hb2⟩; have C2 := Lib.hid (C1.out.trans (hb2.mono (box_pair C1.out).2.2.1)); clear _t tok2 hb2))
    obtain ⟨k0, k1, k2, k3⟩ := box_cells C2.out
    cases n1
    · go_wp2_with fail
      refine (order_full B1 B2 g1 c1 g2 c2 m1 m2 l1 l2 _ (HO1.out.below (box_pair C2.out).2.2.2) (HO2.out.below (box_pair C2.out).2.2.2) HH1.out HH2.out).mono ?_
      unfold OrdPost
      rw [show sgn ((natOf l1 : Int) - (natOf l2 : Int)) = sgn (intOf2 false l1 - intOf2 n2 l2) by rw [HQ.out]; rfl]
      rintro e w4 ⟨rfl, hb4⟩
      have HB := Lib.hid ((box_pair C2.out).2.2.2.trans (hb4.mono (box_pair C2.out).2.2.2.size))
      clear hb4
      go_wp2
      go_ret
      exact ⟨rfl, HB.out⟩
    · go_wp2_with fail
      refine (order_full B2 B1 g2 c2 g1 c1 m2 m1 l2 l1 _ (HO2.out.below (box_pair C2.out).2.2.2) (HO1.out.below (box_pair C2.out).2.2.2) HH2.out HH1.out).mono ?_
      unfold OrdPost
      rw [show sgn ((natOf l2 : Int) - (natOf l1 : Int)) = sgn (intOf2 true l1 - intOf2 n2 l2) by rw [HQ.out]; rfl]
      rintro e w4 ⟨rfl, hb4⟩
      have HB := Lib.hid ((box_pair C2.out).2.2.2.trans (hb4.mono (box_pair C2.out).2.2.2.size))
      clear hb4
      go_wp2
      go_ret
      exact ⟨rfl, HB.out⟩
  · have hb : (q1 != q2) = true := by rw [bne_iff_ne]; exact he
    obtain ⟨lt, hlt⟩ : ∃ lt, decide (q1 < q2) = lt := ⟨_, rfl⟩
    have HQ := Lib.hid (HS1.out he)
    clear HS1 HS2
    have HLT := Lib.hid hlt
    clear he
    go_enter Try.func16, Try.ntmps16
    go_wp2_with fail
    go_region_held3 (fun W => W.cell? ⟨w.heap.size, 0, none⟩ = some (.bool n1) ∧ W.cell? ⟨w.heap.size, 1, none⟩ = some (.slice (some ⟨g1, 0, none⟩) m1 c1) ∧ W.cell? ⟨w.heap.size + 1, 0, none⟩ = some (.bool n2) ∧ W.cell? ⟨w.heap.size + 1, 1, none⟩ = some (.slice (some ⟨g2, 0, none⟩) m2 c2))
      (first | exact box_cells C2.out | exact box_cells C1.out | exact box_cells C0.out | go_keep)
      (first
      | (go_at_call 32; have _t := tok1; refine (spec_sign _ (HV1.out.below (box_pair C0.out.drew).2.2.2)).mono ?_; rw [← HQ1.out]; rintro e w1 ⟨rfl, hb1⟩; have C1 := Lib.hid (C0.out.drew.trans (hb1.mono (box_pair C0.out.drew).2.2.1)); clear _t tok1 hb1)
      | (go_at_call 32; have _t := tok2; refine (spec_sign _ (HV2.out.below (box_pair C1.out).2.2.2)).mono ?_; rw [← HQ2.out]; rintro e w2 ⟨rfl, hb2⟩; have C2 := Lib.hid (C1.out.trans (hb2.mono (box_pair C1.out).2.2.1)); clear _t tok2 hb2))
    obtain ⟨k0, k1, k2, k3⟩ := box_cells C2.out
    go_wp2_with fail
    go_region_held3 (fun W => W.cell? ⟨w.heap.size, 0, none⟩ = some (.bool n1) ∧ W.cell? ⟨w.heap.size, 1, none⟩ = some (.slice (some ⟨g1, 0, none⟩) m1 c1) ∧ W.cell? ⟨w.heap.size + 1, 0, none⟩ = some (.bool n2) ∧ W.cell? ⟨w.heap.size + 1, 1, none⟩ = some (.slice (some ⟨g2, 0, none⟩) m2 c2))
      (first | exact box_cells C4.out | exact box_cells C3.out | exact box_cells C2.out | exact box_cells C2.out.drew | go_keep)
      (first
      | (go_at_call 32; have _t := tok3; refine (spec_sign _ (HV1.out.below (box_pair C2.out.drew).2.2.2)).mono ?_; rw [← HQ1.out]; rintro e w3 ⟨rfl, hb3⟩; have C3 := Lib.hid (C2.out.drew.trans (hb3.mono (box_pair C2.out.drew).2.2.1)); clear _t tok3 hb3)
      | (go_at_call 32; have _t := tok4; refine (spec_sign _ (HV2.out.below (box_pair C3.out).2.2.2)).mono ?_; rw [← HQ2.out]; rintro e w4 ⟨rfl, hb4⟩; have C4 := Lib.hid (C3.out.trans (hb4.mono (box_pair C3.out).2.2.1)); clear _t tok4 hb4))
    have HB := Lib.hid (box_pair C4.out).2.2.2
    cases lt
    · have h1 : ¬ q1 < q2 := by have := HLT.out; simpa using this
      have HR : Hid (sgn (intOf2 n1 l1 - intOf2 n2 l2) = 1) := by unfold Hid; rw [HQ.out, if_neg h1]
      clear h1
      go_wp2
      go_ret
      exact ⟨ret_int HR.out.symm, HB.out⟩
    · have h1 : q1 < q2 := by have := HLT.out; simpa using this
      have HR : Hid (sgn (intOf2 n1 l1 - intOf2 n2 l2) = -1) := by unfold Hid; rw [HQ.out, if_pos h1]
      clear h1
      go_wp2
      go_ret
      exact ⟨ret_int HR.out.symm, HB.out⟩
end Go.Proofs.Ytndeolcamgnmdaa
namespace Go.Proofs.Ytndeolcamgnmdaa
open Go.RowKit
attribute [local go_sem ↓] Go.wp_at_zero Go.wp_at_succ
@[go_sem] theorem Try.run_neg_f {P : Program} (k : FloatKind) (b : Nat) (w : World) : (Op.unary .neg (.float k b)).run P w = .ok (.float k (Op.negFloat k b)) w := rfl
/-- The boxes of the integer, of its amount and of what is kept of it. -/
structure NS (w W : World) (neg : Bool) (xsl : Value) (b1 : Nat) (msl : Value) (lm : List Nat) (b2 : Nat) (ksl : Value) (lk : List Nat) : Prop where
  x : Blk W w.heap.size 24 #[.bool neg, xsl]
  m : Blk W b1 24 #[.bool false, msl]
  ms : SInt W 0 (.agg #[.bool false, msl]) false lm
  k : Blk W b2 24 #[.bool false, ksl]
  ks : SInt W 0 (.agg #[.bool false, ksl]) false lk
  p1 : w.heap.size < b1
  p2 : b1 < b2
  b : Below w.heap.size w W
theorem NS.below {w W W' : World} {neg : Bool} {xsl : Value} {b1 : Nat} {msl : Value} {lm : List Nat} {b2 : Nat} {ksl : Value} {lk : List Nat} (h : NS w W neg xsl b1 msl lm b2 ksl lk) (hb : Below W.heap.size W W') : NS w W' neg xsl b1 msl lm b2 ksl lk :=
  ⟨h.x.below hb h.x.lt, h.m.below hb h.m.lt, h.ms.below hb, h.k.below hb h.k.lt, h.ks.below hb, h.p1, h.p2, h.b.trans (hb.mono h.b.size)⟩
theorem len_of {N : Nat} {l : List Nat} {k : Nat} (hl : l.length ≤ 800) (hb : ∀ x ∈ l, x < 256) (hn : natOf l = N) (h : IsLen N k) : k ≤ 6400 := by
  have h1 := natOf_pow2 l hb
  have h2 : N < 2 ^ (8 * l.length) := by rw [← hn]; exact h1
  have := (isLen_le h).2 h2
  omega
theorem len_ge {N : Nat} {l : List Nat} {k : Nat} (hb : ∀ x ∈ l, x < 256) (hn : natOf l = N) (h : IsLen N k) : k ≤ 8 * l.length := by
  have h1 := natOf_pow2 l hb
  rw [hn] at h1
  exact (isLen_le h).2 h1
theorem NS.cells {w W4 W : World} {neg : Bool} {xsl : Value} {b1 : Nat} {msl : Value} {lm : List Nat} {b2 : Nat} {ksl : Value} {lk : List Nat} (h : NS w W4 neg xsl b1 msl lm b2 ksl lk) (k : Ch W4.heap.size W4 W) :
    W.cell? ⟨b1, 0, none⟩ = some (.bool false) ∧ W.cell? ⟨b1, 1, none⟩ = some msl ∧ W.cell? ⟨b2, 0, none⟩ = some (.bool false) ∧ W.cell? ⟨b2, 1, none⟩ = some ksl := by
  have h2 := h.below k.b
  obtain ⟨a0, a1, _, _⟩ := blk2 h2.m
  obtain ⟨c0, c1, _, _⟩ := blk2 h2.k
  exact ⟨a0, a1, c0, c1⟩
/-- Four cells of two boxes stay. -/
def C4 (W : World) (b1 b2 : Nat) (a b c d : Value) : Prop := W.cell? ⟨b1, 0, none⟩ = some a ∧ W.cell? ⟨b1, 1, none⟩ = some b ∧ W.cell? ⟨b2, 0, none⟩ = some c ∧ W.cell? ⟨b2, 1, none⟩ = some d
theorem NS4.al {W : World} {b1 b2 : Nat} {a b c d : Value} (h : W.cell? ⟨b1, 0, none⟩ = some a ∧ W.cell? ⟨b1, 1, none⟩ = some b ∧ W.cell? ⟨b2, 0, none⟩ = some c ∧ W.cell? ⟨b2, 1, none⟩ = some d) (o : Obj) :
    (W.alloc o).cell? ⟨b1, 0, none⟩ = some a ∧ (W.alloc o).cell? ⟨b1, 1, none⟩ = some b ∧ (W.alloc o).cell? ⟨b2, 0, none⟩ = some c ∧ (W.alloc o).cell? ⟨b2, 1, none⟩ = some d := by
  have e : ∀ g x u, W.cell? ⟨g, x, none⟩ = some u → (W.alloc o).cell? ⟨g, x, none⟩ = some u := fun g x u hu => by
    have hl := World.block_lt_of_cell? W _ hu
    rw [← hu]
    simp only [World.cell?, Below.heap_alloc W o g hl]
  exact ⟨e _ _ _ h.1, e _ _ _ h.2.1, e _ _ _ h.2.2.1, e _ _ _ h.2.2.2⟩
theorem NS4.st {W : World} {b1 b2 : Nat} {a b c d : Value} (h : W.cell? ⟨b1, 0, none⟩ = some a ∧ W.cell? ⟨b1, 1, none⟩ = some b ∧ W.cell? ⟨b2, 0, none⟩ = some c ∧ W.cell? ⟨b2, 1, none⟩ = some d) (p : Addr) (u : Value) (hp : b1 ≠ p.block ∧ b2 ≠ p.block) :
    (W.setCell p u).cell? ⟨b1, 0, none⟩ = some a ∧ (W.setCell p u).cell? ⟨b1, 1, none⟩ = some b ∧ (W.setCell p u).cell? ⟨b2, 0, none⟩ = some c ∧ (W.setCell p u).cell? ⟨b2, 1, none⟩ = some d := by
  have e1 : ∀ o, (W.setCell p u).cell? ⟨b1, o, none⟩ = W.cell? ⟨b1, o, none⟩ := fun o => by simp only [World.cell?, Below.heap_setCell W p u b1 hp.1]
  have e2 : ∀ o, (W.setCell p u).cell? ⟨b2, o, none⟩ = W.cell? ⟨b2, o, none⟩ := fun o => by simp only [World.cell?, Below.heap_setCell W p u b2 hp.2]
  rw [e1, e1, e2, e2]
  exact h
theorem NS4.dr {W : World} {b1 b2 : Nat} {a b c d : Value} (h : W.cell? ⟨b1, 0, none⟩ = some a ∧ W.cell? ⟨b1, 1, none⟩ = some b ∧ W.cell? ⟨b2, 0, none⟩ = some c ∧ W.cell? ⟨b2, 1, none⟩ = some d) :
    W.drew.cell? ⟨b1, 0, none⟩ = some a ∧ W.drew.cell? ⟨b1, 1, none⟩ = some b ∧ W.drew.cell? ⟨b2, 0, none⟩ = some c ∧ W.drew.cell? ⟨b2, 1, none⟩ = some d := h
theorem chc {w0 W : World} {b3 : Nat} {t : TypeId} {a b : Value} (h : Blk w0 b3 t #[a, b]) (k : Ch w0.heap.size w0 W) : W.cell? ⟨b3, 0, none⟩ = some a ∧ W.cell? ⟨b3, 1, none⟩ = some b := by
  obtain ⟨h0, h1, _, _⟩ := blk2 (h.below k.b h.lt)
  exact ⟨h0, h1⟩
def roundB (N p : Nat) : Bool := decide (2 ^ (p - 1) < N % 2 ^ p ∨ (N % 2 ^ p = 2 ^ (p - 1) ∧ N / 2 ^ p % 2 = 1))
theorem round_k (N p : Nat) (hp : 0 < p) : nearK N p = N / 2 ^ p + (roundB N p).toNat := by
  unfold nearK roundB
  rw [if_neg (by omega), cut_spec N p hp]
  congr 1
  split
  · rename_i h; rw [decide_eq_true h]; rfl
  · rename_i h; rw [decide_eq_false h]; rfl
theorem mul_two_f {r : Nat} (h0 : B52 ≤ r) (h : r + B52 < infR) : floatBits .mul .f64 r 4611686018427387904 = some (r + B52) := by
  unfold floatBits
  exact mul_two h0 h
theorem bel_dr {X W : World} (h : Below X.drew.heap.size X.drew W) : Below X.heap.size X W := ((Below.refl _ X).drew).trans h
theorem sint_off {W : World} {B g r c b : Nat} {n : Bool} {l : List Nat} {cs : Array Value} (h : SInt W B (.agg #[.bool n, .slice (some ⟨g, 0, none⟩) r c]) n l) (hk : Blk W b 24 cs) : g ≠ b := by
  intro e
  subst e
  obtain ⟨vs, e, ho, _, _⟩ := h
  simp only [Value.agg.injEq, Array.mk.injEq, List.cons.injEq, and_true, true_and] at e
  subst e
  rcases ho.1.2 with ⟨h1, _⟩ | ⟨g', cap, cur, hv, _, hh, _⟩
  · simp at h1
  · injection hv with e1
    injection e1 with e1
    injection e1 with e1
    subst e1
    have := hk.symm.trans hh
    injection this with this
    injection this with _ this
    exact absurd this (by decide)
theorem NS.upd {w W : World} {neg : Bool} {xsl : Value} {b1 g2 m2 c2 : Nat} {lm : List Nat} {b2 : Nat} {ksl : Value} {lk : List Nat} {g4 m4 c4 : Nat} {l4 : List Nat} (h : NS w W neg xsl b1 (.slice (some ⟨g2, 0, none⟩) m2 c2) lm b2 ksl lk) (hs : SInt W 0 (.agg #[.bool false, .slice (some ⟨g4, 0, none⟩) m4 c4]) false l4) :
    NS w ((W.setCell ⟨b2, 0, none⟩ (.bool false)).setCell ⟨b2, 1, none⟩ (.slice (some ⟨g4, 0, none⟩) m4 c4)) neg xsl b1 (.slice (some ⟨g2, 0, none⟩) m2 c2) lm b2 (.slice (some ⟨g4, 0, none⟩) m4 c4) l4 := by
  have o1 := sint_off h.ms h.k
  have o2 := sint_off hs h.k
  have p1 := h.p1
  have p2 := h.p2
  refine ⟨blk_far (blk_far h.x _ _ (by simp; omega)) _ _ (by simp; omega), blk_far (blk_far h.m _ _ (by simp; omega)) _ _ (by simp; omega), sint_set (sint_set h.ms _ _ o1) _ _ o1, two_put h.k _ _, sint_set (sint_set hs _ _ o2) _ _ o2, p1, p2, (h.b.setCell (p := ⟨b2, 0, none⟩) (by simp; omega) _).setCell (p := ⟨b2, 1, none⟩) (by simp; omega) _⟩
theorem bel_al1 (X : World) (o : Obj) : Below X.heap.size X (X.alloc o) := (Below.refl _ _).alloc (Nat.le_refl _) _
theorem NK_le {N a p M : Nat} (h : a = N / 2 ^ p) (hN : N < M) : a * 2 ^ p < M := by rw [h]; exact Nat.lt_of_le_of_lt (Nat.div_mul_le_self N (2 ^ p)) hN
def NearPost (neg : Bool) (N : Nat) (w : World) (e : Ending) (w' : World) : Prop := e = .returned (.float .f64 (FW neg (rint N))) ∧ Below w.heap.size w w'
set_option maxRecDepth 100000 in
set_option maxHeartbeats 8000000 in
theorem spec_nearest (B : Nat) (v : Value) (neg : Bool) (l : List Nat) (w : World) (hv : SInt w B v neg l) (hl : l.length ≤ 800) (h0 : l ≠ []) :
    Calls Try.prog 5 #[v] w (NearPost neg (natOf l) w) := by
  have HV := Lib.hid hv
  obtain ⟨vs, rfl, hob, hh, hn⟩ := hv
  obtain ⟨g, c, hvs, hg1, hg2, _, _⟩ := hob.form
  obtain ⟨mx, hm⟩ : ∃ m, m = l.length := ⟨_, rfl⟩
  rw [← hm] at hvs
  subst hvs
  obtain ⟨N, hN⟩ : ∃ N, N = natOf l := ⟨_, rfl⟩
  have hN0 : N ≠ 0 := by rw [hN]; exact fun e => h0 ((natOf_eq_zero hh).1 e)
  have HOB := Lib.hid hob
  have HN := Lib.hid hN
  have HL := Lib.hid hl
  have HB0 := Lib.hid ((Below.refl w.heap.size w).alloc (Nat.le_refl _) (.cells #[.bool neg, .slice (some ⟨g, 0, none⟩) mx c] 24))
  have HX0 := Lib.hid (Blk.new w 24 #[.bool neg, .slice (some ⟨g, 0, none⟩) mx c])
  rw [← hN]
  clear hob hn hh hl hm hN h0
  go_enter Try.func5, Try.ntmps5
  go_wp2_with fail
  refine (spec_length B _ neg l _ (HV.out.below HB0.out) (by have := HL.out; omega)).mono ?_
  rw [← HN.out]
  rintro e w1 ⟨k, rfl, hk, hb1⟩
  have hkl : k ≤ 6400 := len_of HL.out HOB.out.2.2 HN.out.symm hk
  obtain ⟨p, hp⟩ : ∃ p : Nat, max ((k : Int) - 53) 0 = (p : Int) := ⟨k - 53, by omega⟩
  have hpk : p = k - 53 := by omega
  have HK := Lib.hid (And.intro hk hpk)
  have HB1 := Lib.hid (HB0.out.trans (hb1.mono HB0.out.size))
  have HX1 := Lib.hid (HX0.out.below hb1 HX0.out.lt)
  obtain ⟨x0, x1, _, _⟩ := blk2 HX1.out
  clear hb1 hk hpk
  go_wp2_with fail
  refine (of_any false _ _ _ l w1 ((HOB.out.below HB1.out).bsl) (by have := HL.out; omega)).mono ?_
  rintro e w2 ⟨v2, rfl, hsi, hb2⟩
  have hlm : natOf (strip l) = N := by rw [natOf_strip]; exact HN.out.symm
  obtain ⟨lm, hlme⟩ : ∃ lm, lm = strip l := ⟨_, rfl⟩
  rw [show negOf false l = false from rfl, ← hlme] at hsi
  rw [← hlme] at hlm
  have hlml : lm.length ≤ 800 := by rw [hlme]; exact Nat.le_trans (strip_le _) HL.out
  have hbm : ∀ x ∈ lm, x < 256 := by obtain ⟨_, _, ho, _⟩ := hsi; exact ho.2.2
  have hp8 : p ≤ 8 * lm.length := by
    have := len_ge hbm hlm HK.out.1
    have := HK.out.2
    omega
  obtain ⟨g2, c2, hv2⟩ := hsi.lit2
  obtain ⟨m2, hm2⟩ : ∃ m, m = lm.length := ⟨_, rfl⟩
  rw [← hm2] at hv2
  subst hv2
  have HB2 := Lib.hid (HB1.out.trans (hb2.mono HB1.out.size))
  have HX2 := Lib.hid (HX1.out.below hb2 HX1.out.lt)
  have HS2 := Lib.hid (hsi.base (C := 0) (Nat.zero_le _))
  have HLM := Lib.hid (And.intro hlm (And.intro hlml hp8))
  have HA2 := Lib.hid ((Below.refl w2.heap.size w2).alloc (Nat.le_refl _) (.cells #[.bool false, .slice (some ⟨g2, 0, none⟩) m2 c2] 24))
  have hx2 := HX2.out.lt
  clear hsi hb2 hlm hlml hbm hp8 hm2 hlme x0 x1
  go_wp2_with fail
  refine (spec_rsh_pos 0 _ lm p _ (HS2.out.below HA2.out) (by have := HLM.out.2.1; omega) HLM.out.2.2).mono ?_
  rintro e w3 ⟨v3, lk, rfl, hsi, hnk, hb3⟩
  rw [HLM.out.1] at hnk
  obtain ⟨g3, c3, hv3⟩ := hsi.lit2
  obtain ⟨m3, hm3⟩ : ∃ m, m = lk.length := ⟨_, rfl⟩
  rw [← hm3] at hv3
  subst hv3
  obtain ⟨b1, hb1e⟩ : ∃ b1, b1 = w2.heap.size := ⟨_, rfl⟩
  obtain ⟨b2, hb2e⟩ : ∃ b2, b2 = w3.heap.size := ⟨_, rfl⟩
  have hsz3 := hb3.size
  simp only [World.size_alloc] at hsz3
  obtain ⟨W4, hW4⟩ : ∃ W4, W4 = w3.alloc (.cells #[.bool false, .slice (some ⟨g3, 0, none⟩) m3 c3] 24) := ⟨_, rfl⟩
  have HNS : Hid (NS w W4 neg (.slice (some ⟨g, 0, none⟩) mx c) b1 (.slice (some ⟨g2, 0, none⟩) m2 c2) lm b2 (.slice (some ⟨g3, 0, none⟩) m3 c3) lk) := by
    rw [hW4]
    have hk3 := (Blk.new w2 24 #[.bool false, .slice (some ⟨g2, 0, none⟩) m2 c2]).below hb3 (by simp)
    refine ⟨((HX2.out.alloc _).below hb3 (by simp; omega)).alloc _, by rw [hb1e]; exact hk3.alloc _, ((HS2.out.below HA2.out).below hb3).below ((Below.refl _ _).alloc (Nat.le_refl _) _), by rw [hb2e]; exact Blk.new _ _ _, (hsi.base (C := 0) (Nat.zero_le _)).below ((Below.refl _ _).alloc (Nat.le_refl _) _), by rw [hb1e]; exact hx2, by omega, ?_⟩
    exact ((HB2.out.alloc HB2.out.size _).trans (hb3.mono (by simp; have := HB2.out.size; omega))).alloc (by have := HB2.out.size; omega) _
  have HNK := Lib.hid (And.intro hnk hm3)
  have HBE := Lib.hid (And.intro hb1e hb2e)
  have HW4 := Lib.hid hW4
  clear hW4 hsi hnk hb3 hm3 hsz3 hb1e hb2e HX1 HX0 HB0 HX2 HB2 HS2 HA2 HB1 hx2
  go_upto_region 5 with fail
  rw [← HW4.out, ← HBE.out.1, ← HBE.out.2]
  have HLK : Hid (lk.length ≤ 800 ∧ (lk ≠ [])) := by
    obtain ⟨hnk, _⟩ := HNK.out
    have hh := sint_head HNS.out.ks
    have hle : natOf lk < 256 ^ l.length := by
      rw [hnk]
      refine Nat.lt_of_le_of_lt (Nat.div_le_self _ _) ?_
      rw [HN.out]
      exact natOf_lt l HOB.out.2.2
    refine ⟨Nat.le_trans (head_nat hh hle) HL.out, fun e => ?_⟩
    have : natOf lk = 0 := by rw [e]; rfl
    rw [hnk] at this
    have hp : 2 ^ p ≤ N := by
      have hk := HK.out.1.2
      have hpk := HK.out.2
      rcases Nat.eq_zero_or_pos p with h | h
      · rw [h]; simp; omega
      · rcases hk with h1 | h1
        · omega
        · exact Nat.le_trans (Nat.pow_le_pow_right (by omega) (by omega)) h1
    have := Nat.div_pos hp (Nat.pow_pos (n := p) (by omega : 0 < 2))
    omega
  go_cut [7] (fun v wx => ∃ b3 nl sl ll, v = .pointer (some ⟨b3, 0, none⟩) ∧ Blk wx b3 24 #[.bool nl, sl] ∧ SInt wx 0 (.agg #[.bool nl, sl]) nl ll ∧ intOf2 nl ll = (N : Int) - ((N / 2 ^ p * 2 ^ p : Nat) : Int) ∧ b2 < b3 ∧ Hid (NS w wx neg (.slice (some ⟨g, 0, none⟩) mx c) b1 (.slice (some ⟨g2, 0, none⟩) m2 c2) lm b2 (.slice (some ⟨g3, 0, none⟩) m3 c3) lk))
  case first =>
    have K0 : Hid (Ch W4.heap.size W4 W4) := ⟨Below.refl _ _, Nat.le_refl _⟩
    have q4 := HNS.out.k.lt
    have q41 := HNS.out.m.lt
    go_region_held3 (fun W => W.cell? ⟨b1, 0, none⟩ = some (.bool false) ∧ W.cell? ⟨b1, 1, none⟩ = some (.slice (some ⟨g2, 0, none⟩) m2 c2) ∧ W.cell? ⟨b2, 0, none⟩ = some (.bool false) ∧ W.cell? ⟨b2, 1, none⟩ = some (.slice (some ⟨g3, 0, none⟩) m3 c3))
    (((repeat (first | (with_reducible refine NS4.al ?_ _) | (with_reducible refine NS4.st ?_ _ _ ?_) | (with_reducible refine NS4.dr ?_))); (first | (with_reducible exact HNS.out.cells K3.out) | (with_reducible exact HNS.out.cells K2.out) | (with_reducible exact HNS.out.cells K0.out)); (all_goals (simp; try omega))))
    (first
    | (go_at_call 15; refine (spec_lsh_pos 0 _ lk p _ (HNS.out.ks.below ?sa) (by have := HLK.out.1; omega) (by omega) HLK.out.2).mono ?_; (case sa => first | (with_reducible exact K0.out.b) | (with_reducible exact (K0.out.al _).b) | (with_reducible exact (K0.out.dr).b) | (with_reducible exact ((K0.out.al _).dr).b)); rintro e w5 ⟨v5, l5, rfl, hsi, hn5, hb5⟩; have K2 : Hid (Ch W4.heap.size W4 w5) := (by first | (with_reducible exact Lib.hid (K0.out.to hb5)) | (with_reducible exact Lib.hid ((K0.out.al _).to hb5)) | (with_reducible exact Lib.hid ((K0.out.dr).to hb5)) | (with_reducible exact Lib.hid (((K0.out.al _).dr).to hb5))); (first | (with_reducible have ZA := al1 hb5) | (with_reducible have ZA := al1d hb5) | skip); have q5 := hb5.size; (try simp at q5); have HS5 := Lib.hid (hsi.base (C := 0) (Nat.zero_le _)); obtain ⟨g5, c5, hv5⟩ := hsi.lit2; obtain ⟨m5, hm5⟩ : ∃ m, m = l5.length := ⟨_, rfl⟩; have HM5b : Hid (l5.length ≤ 2000) := (by have hh := sint_head hsi; have hq : natOf l5 < 256 ^ (l.length) := (by rw [hn5]; exact NK_le HNK.out.1 (by rw [HN.out]; exact natOf_lt l HOB.out.2.2)); have := head_nat hh hq; have := HL.out; unfold Hid; omega); rw [← hm5] at hv5; subst hv5; have HN5 := Lib.hid hn5; clear hsi hn5 hb5 hm5)
    | (go_at_call 14; refine (spec_sub 0 0 _ _ false false lm l5 _ (HNS.out.ms.below ?sb) (HS5.out.below ?sc) (by have := HLM.out.2.1; omega) (by have := HM5b.out; omega)).mono ?_; (case sb => first | (with_reducible exact K2.out.b) | (with_reducible exact (K2.out.al _).b) | (with_reducible exact (K2.out.dr).b) | (with_reducible exact ((K2.out.al _).dr).b)); (case sc => first | (with_reducible exact Below.refl _ _) | (with_reducible exact bel_al1 _ _)); rintro e w6 ⟨v6, nl, ll, rfl, hsi, hby, hn6, hb6⟩; have K3 : Hid (Ch W4.heap.size W4 w6) := (by first | (with_reducible exact Lib.hid (K2.out.to hb6)) | (with_reducible exact Lib.hid ((K2.out.al _).to hb6)) | (with_reducible exact Lib.hid ((K2.out.dr).to hb6)) | (with_reducible exact Lib.hid (((K2.out.al _).dr).to hb6))); (first | (with_reducible have ZB := al1 hb6) | (with_reducible have ZB := al1d hb6) | skip); (first | (with_reducible have ZC := ZA.below (bel_up1 hb6) ZA.lt) | skip); have q6 := hb6.size; (try simp at q6); have HS6 := Lib.hid (hsi.base (C := 0) (Nat.zero_le _)); obtain ⟨g6, c6, hv6⟩ := hsi.lit2; obtain ⟨m6, hm6⟩ : ∃ m, m = ll.length := ⟨_, rfl⟩; rw [← hm6] at hv6; rw [hv6] at HS6; subst hv6; have HG6 := sint_g hsi; (try simp at HG6); have HN6 := Lib.hid hn6; (first | (have HY := blk2 ZC; have llc := ZC.lt; obtain ⟨y0, y1, yf0, yf1⟩ := HY) | skip); (first | (have HY := blk2 ZB; have llb := ZB.lt; obtain ⟨s0, s1, sf0, sf1⟩ := HY) | skip); clear hsi hby hn6 hb6 hm6))
    all_goals
      go_wp2_with fail
      go_meet
      refine ⟨_, nl, .slice (some ⟨g6, 0, none⟩) m6 c6, ll, rfl, ?_, ?_, ?_, ?_, Lib.hid (HNS.out.below ?_)⟩
      · ((repeat (first | (with_reducible exact two_put ZB _ _) | (with_reducible exact two_put ZC _ _) | (with_reducible exact Blk.new _ _ _) | (with_reducible refine Blk.alloc ?_ _) | (with_reducible refine blk_far ?_ _ _ ?_))); (all_goals (simp; try omega)))
      · ((repeat (first | (with_reducible exact HS6.out) | (with_reducible refine sint_al ?_ _) | (with_reducible refine sint_set ?_ _ _ ?_))); (all_goals (simp; try omega)))
      · rw [HN6.out]
        simp only [intOf2, Bool.false_eq_true, if_false, HLM.out.1, HN5.out, HNK.out.1]
      · omega
      · have k3s := K3.out.s
        ((repeat (first | (with_reducible exact K3.out.b) | (with_reducible refine bel_al ?_ _ ?_) | (with_reducible refine bel_set ?_ _ _ ?_))); (all_goals ((try simp); try omega)))
  case rest =>
    obtain ⟨b3, nl, sl, ll, rfl, hb3, hs3, hn3, hlt3, hns⟩ := hcut
    have HB3 := Lib.hid (And.intro hb3 (And.intro hs3 hn3))
    have hdm : ((N / 2 ^ p * 2 ^ p : Nat) : Int) + ((N % 2 ^ p : Nat) : Int) = (N : Int) := by
      have := Nat.div_add_mod N (2 ^ p)
      rw [Nat.mul_comm] at this
      omega
    have HDM := Lib.hid hdm
    clear hb3 hs3 hn3 hlt3 hdm HW4 HBE
    go_upto_if 27 with fail
    go_cut [8] (fun _ wx => ∃ ksl lk', natOf lk' = nearK N p ∧ Hid (NS w wx neg (.slice (some ⟨g, 0, none⟩) mx c) b1 (.slice (some ⟨g2, 0, none⟩) m2 c2) lm b2 ksl lk'))
    case first =>
      by_cases hp0 : p = 0
      · subst hp0
        go_wp2
        go_meet
        exact ⟨_, lk, by rw [HNK.out.1]; simp [nearK], hns⟩
      · have hpp : 0 < p := by omega
        have d27 : decide ((0 : Int) < (p : Int)) = true := by simp; omega
        have d27n : decide (0 < p) = true := by simp; omega
        obtain ⟨pm, hpm⟩ : ∃ pm, pm = p - 1 := ⟨_, rfl⟩
        have hpi : (p : Int) - 1 = (pm : Int) := by omega
        have hpw : IntKind.i64.wrap ((p : Int) - 1) = (pm : Int) := by rw [hpi]; exact IntWalk.i64_in _ (by omega)
        have HPM := Lib.hid hpm
        have hpm2 : pm ≤ 7000 := by omega
        have hpw2 : IntKind.i64.wrap (pm : Int) = (pm : Int) := IntWalk.i64_in _ (by omega)
        clear hpm
        go_upto_region 7 with fail
        go_cut [8] (fun v wx => v = .int .i64 (sgn (((N % 2 ^ p : Nat) : Int) - ((2 ^ pm : Nat) : Int))) ∧ Hid (NS w wx neg (.slice (some ⟨g, 0, none⟩) mx c) b1 (.slice (some ⟨g2, 0, none⟩) m2 c2) lm b2 (.slice (some ⟨g3, 0, none⟩) m3 c3) lk))
        case first =>
          have K0 : Hid (Ch wc.heap.size wc wc) := ⟨Below.refl _ _, Nat.le_refl _⟩
          have HPOW := Lib.hid (fun W => spec_power pm W (by omega))
          go_region_held3 (fun W => W.cell? ⟨b3, 0, none⟩ = some (.bool nl) ∧ W.cell? ⟨b3, 1, none⟩ = some sl)
            (first | (with_reducible exact chc HB3.out.1 K3.out) | (with_reducible exact chc HB3.out.1 K2.out) | (with_reducible exact chc HB3.out.1 K0.out.dr) | (with_reducible exact chc HB3.out.1 K0.out))
            (first
            | (go_at_call 17; (with_reducible refine (HPOW.out _).mono ?_); rintro e w5 hpp; obtain ⟨v5, l5, rfl, hsi, hn5, hb5⟩ := hpp.pos; have K2 : Hid (Ch wc.heap.size wc w5) := (by first | (with_reducible exact Lib.hid (K0.out.to hb5)) | (with_reducible exact Lib.hid (K0.out.dr.to hb5))); have HS5 := Lib.hid hsi; have HN5 := Lib.hid hn5; obtain ⟨g5, c5, hv5⟩ := hsi.lit2; obtain ⟨m5, hm5⟩ : ∃ m, m = l5.length := ⟨_, rfl⟩; rw [← hm5] at hv5; subst hv5; clear hpp hsi hn5 hb5 hm5)
            | (go_at_call 16; refine (cmp_full 0 _ _ _ nl false ll l5 _ (HB3.out.2.1.below K2.out.b) HS5.out).mono ?_; unfold OrdPost; rintro e w6 ⟨rfl, hb6⟩; have K3 : Hid (Ch wc.heap.size wc w6) := Lib.hid (K2.out.to hb6); clear hb6))
          all_goals
            go_wp2_with fail
            go_meet
            refine ⟨?_, Lib.hid (hns.out.below K3.out.b)⟩
            congr 2
            rw [HB3.out.2.2]
            have := HDM.out
            simp only [intOf2, Bool.false_eq_true, if_false, HN5.out]
            omega
        case rest =>
          obtain ⟨rfl, hns⟩ := hcut
          obtain ⟨sg, hsg⟩ : ∃ sg, sg = sgn (((N % 2 ^ p : Nat) : Int) - ((2 ^ pm : Nat) : Int)) := ⟨_, rfl⟩
          rw [← hsg]
          have HSG := Lib.hid hsg
          obtain ⟨hk0, hk1, _, _⟩ := blk2 hns.out.k
          have HBIT : Hid (∀ W, Below wc.heap.size wc W → Calls Try.prog 18 #[.slice (some ⟨g3, 0, none⟩) m3 c3, .int .i64 0] W (IntPost ((N / 2 ^ p % 2 : Nat) : Int) W)) := fun W hW => by
            obtain ⟨_, e, ho, _, _⟩ := hns.out.ks
            simp only [Value.agg.injEq, Array.mk.injEq, List.cons.injEq, and_true, true_and] at e
            subst e
            have := bit_any 0 g3 m3 c3 lk 0 W (ho.below hW) HNK.out.2 (by omega) (by have := HLK.out.1; have := HNK.out.2; omega)
            rw [show ((0 : Nat) : Int) = 0 from rfl, HNK.out.1] at this
            unfold bitAt at this
            rw [Nat.pow_zero, Nat.div_one] at this
            exact this
          obtain ⟨rb, hrb⟩ : ∃ rb, rb = roundB N p := ⟨_, rfl⟩
          have HRB := Lib.hid hrb
          clear hsg hrb
          go_upto_region 8 with fail
          go_cut [44] (fun v wx => v = .bool rb ∧ Hid (NS w wx neg (.slice (some ⟨g, 0, none⟩) mx c) b1 (.slice (some ⟨g2, 0, none⟩) m2 c2) lm b2 (.slice (some ⟨g3, 0, none⟩) m3 c3) lk))
          case first =>
            rcases Int.lt_trichotomy (((N % 2 ^ p : Nat) : Int) - ((2 ^ pm : Nat) : Int)) 0 with h | h | h
            · obtain rfl : sg = -1 := by rw [HSG.out]; unfold sgn; rw [if_pos h]
              have hr : rb = false := by
                rw [HRB.out]
                unfold roundB
                rw [← HPM.out]
                exact decide_eq_false (by omega)
              subst hr
              clear h
              go_wp2_with fail
              go_meet
              exact ⟨rfl, hns⟩
            · obtain rfl : sg = 0 := by rw [HSG.out]; unfold sgn; rw [h]; rfl
              obtain ⟨bt, hbt⟩ : ∃ bt, bt = N / 2 ^ p % 2 := ⟨_, rfl⟩
              have HB2 := Lib.hid (HBIT.out wc (Below.refl _ _))
              rw [← hbt] at HB2
              have hr : rb = decide (bt = 1) := by
                rw [HRB.out, hbt]
                unfold roundB
                rw [← HPM.out]
                refine decide_eq_decide.2 ⟨fun h2 => ?_, fun h2 => .inr ⟨by omega, h2⟩⟩
                rcases h2 with h2 | h2
                · omega
                · exact h2.2
              have hbt2 : bt = 0 ∨ bt = 1 := by omega
              clear h HBIT hbt
              subst hr
              rcases hbt2 with rfl | rfl
              · go_wp2_with fail
                refine HB2.out.mono ?_
                unfold IntPost
                rintro e w' ⟨rfl, rfl⟩
                go_wp2_with fail
                go_meet
                exact ⟨rfl, hns⟩
              · go_wp2_with fail
                refine HB2.out.mono ?_
                unfold IntPost
                rintro e w' ⟨rfl, rfl⟩
                go_wp2_with fail
                go_meet
                exact ⟨rfl, hns⟩
            · obtain rfl : sg = 1 := by rw [HSG.out]; unfold sgn; rw [if_neg (by omega), if_neg (by omega)]
              have hr : rb = true := by
                rw [HRB.out]
                unfold roundB
                rw [← HPM.out]
                exact decide_eq_true (by omega)
              subst hr
              clear h
              go_wp2_with fail
              go_meet
              exact ⟨rfl, hns⟩
          case rest =>
            obtain ⟨rfl, hns⟩ := hcut
            have HRK : Hid (nearK N p = natOf lk + rb.toNat) := by
              unfold Hid
              rw [round_k N p hpp, HNK.out.1, HRB.out]
            clear hk0 hk1 HBIT HSG
            cases rb with
            | false =>
              go_wp2_with fail
              go_meet
              exact ⟨_, lk, by rw [HRK.out]; simp, hns⟩
            | true =>
              obtain ⟨k0, k1, kf0, kf1⟩ := blk2 hns.out.k
              have HLEN : Hid (lk.length ≤ 800) := HLK.out.1
              clear HRB
              go_wp2_with fail
              go_region_with ((first
                | (go_at_call 8; refine (small_any 1 (by unfold W64; decide) _).mono ?_; rintro e w5 ⟨v5, n5, l5, rfl, hsi, hby, hnum, hb5⟩; have N5 : Hid (NS w w5 neg (.slice (some ⟨g, 0, none⟩) mx c) b1 (.slice (some ⟨g2, 0, none⟩) m2 c2) lm b2 (.slice (some ⟨g3, 0, none⟩) m3 c3) lk) := (by first | exact Lib.hid (hns.out.below hb5) | exact Lib.hid (hns.out.below (bel_dr hb5))); obtain ⟨k0', k1', kf0', kf1'⟩ := blk2 N5.out.k; have HL5 := Lib.hid (intOf2_len (sint_head hsi) hnum (by omega) (by omega)); have HS5 := Lib.hid hsi; have HN5 := Lib.hid hnum; obtain ⟨g5, c5, hv5⟩ := hsi.lit2; obtain ⟨m5, hm5⟩ : ∃ m, m = l5.length := ⟨_, rfl⟩; rw [← hm5] at hv5; subst hv5; clear hsi hby hnum hb5 hm5)
                | (go_at_call 19; refine (spec_add 0 _ _ _ false n5 lk l5 _ N5.out.ks HS5.out (by have := HLEN.out; omega) (by have := HL5.out; omega)).mono ?_; rintro e w6 hq; obtain ⟨v6, l6, rfl, hsi, hn6, hb6⟩ := NumPost.pos (n := natOf lk + 1) (by rw [HN5.out] at hq; simpa [intOf2] using hq); have N6 : Hid (NS w w6 neg (.slice (some ⟨g, 0, none⟩) mx c) b1 (.slice (some ⟨g2, 0, none⟩) m2 c2) lm b2 (.slice (some ⟨g3, 0, none⟩) m3 c3) lk) := Lib.hid (N5.out.below hb6); obtain ⟨r0, r1, rf0, rf1⟩ := blk2 N6.out.k; have HS6 := Lib.hid (hsi.base (C := 0) (Nat.zero_le _)); have HN6 := Lib.hid hn6; obtain ⟨g6, c6, hv6⟩ := hsi.lit2; obtain ⟨m6, hm6⟩ : ∃ m, m = l6.length := ⟨_, rfl⟩; rw [← hm6] at hv6; rw [hv6] at HS6; subst hv6; clear hq hsi hb6 hm6 hn6)))
              all_goals
                go_wp2_with fail
                go_meet
                exact ⟨_, l6, by rw [HRK.out, HN6.out]; rfl, Lib.hid (N6.out.upd HS6.out)⟩
    case rest =>
      obtain ⟨ksl, lk2, hnk2, hns⟩ := hcut
      clear HNS HNK HLK HB3 HDM
      obtain ⟨g4, c4, hv4⟩ := hns.out.ks.lit2
      obtain ⟨m4, hm4⟩ : ∃ m, m = lk2.length := ⟨_, rfl⟩
      rw [← hm4] at hv4
      simp only [Value.agg.injEq, Array.mk.injEq, List.cons.injEq, and_true, true_and] at hv4
      subst hv4
      have hfin := near_fin N k hN0 HK.out.1
      rw [← HK.out.2] at hfin
      have hlk2 : lk2.length ≤ 7 := head_nat (sint_head hns.out.ks) (by rw [hnk2]; exact Nat.lt_of_le_of_lt hfin.1 (by decide))
      have hlen := spec_length 0 _ false lk2 wc hns.out.ks (by omega)
      rw [hnk2] at hlen
      have HLEN := Lib.hid hlen
      have HFIN := Lib.hid hfin
      have HNK2 := Lib.hid (And.intro hnk2 hlk2)
      obtain ⟨k0, k1, kf0, kf1⟩ := blk2 hns.out.k
      clear hlen hfin hnk2 hlk2 hm4
      go_wp2_with fail
      refine HLEN.out.mono ?_
      rintro e w5 ⟨j, rfl, hj, hb5⟩
      have hns5 := Lib.hid (hns.out.below hb5)
      obtain ⟨q0, q1, qf0, qf1⟩ := blk2 hns5.out.k
      have HJ := Lib.hid hj
      clear hj hb5 HLEN k0 k1 kf0 kf1
      go_upto_if 50 with fail
      go_cut [4] (fun pv wx => ∃ g5 m5 c5 lk3, pv = .int .i64 ((nearP2 N p : Nat) : Int) ∧ natOf lk3 = nearK2 N p ∧ Hid (NS w wx neg (.slice (some ⟨g, 0, none⟩) mx c) b1 (.slice (some ⟨g2, 0, none⟩) m2 c2) lm b2 (.slice (some ⟨g5, 0, none⟩) m5 c5) lk3))
      case first =>
        by_cases hov : 53 < j
        · have d50 : decide ((53 : Int) < (j : Int)) = true := by simp; omega
          have d50n : decide (53 < j) = true := by simp; omega
          have hK : 2 ^ 53 ≤ nearK N p := by
            rcases Nat.lt_or_ge (nearK N p) (2 ^ 53) with h | h
            · have := (isLen_le HJ.out).2 h; omega
            · exact h
          have hn1 : 1 ≤ 8 * lk2.length := by
            cases hc : lk2 with
            | nil =>
              have := HNK2.out.1
              rw [hc] at this
              simp [natOf] at this
              omega
            | cons a r => simp; omega
          have HRS := Lib.hid (spec_rsh_pos 0 _ lk2 1 w5 hns5.out.ks (by have := HNK2.out.2; omega) hn1)
          have HKK := Lib.hid hK
          have hpl : p ≤ 7000 := by omega
          clear hK hn1
          go_wp2_with fail
          refine HRS.out.mono ?_
          rintro e w6 ⟨v6, l6, rfl, hsi, hn6, hb6⟩
          have hns6 := Lib.hid (hns5.out.below hb6)
          obtain ⟨r0, r1, rf0, rf1⟩ := blk2 hns6.out.k
          have HS6 := Lib.hid (hsi.base (C := 0) (Nat.zero_le _))
          have HN6 := Lib.hid hn6
          obtain ⟨g6, c6, hv6⟩ := hsi.lit2
          obtain ⟨m6, hm6⟩ : ∃ m, m = l6.length := ⟨_, rfl⟩
          rw [← hm6] at hv6
          rw [hv6] at HS6
          subst hv6
          clear hsi hn6 hb6 hm6 HRS q0 q1 qf0 qf1
          go_wp2_with fail
          go_meet
          refine ⟨g6, m6, c6, l6, ?_, ?_, Lib.hid (hns6.out.upd HS6.out)⟩
          · unfold nearP2
            rw [if_pos HKK.out]
            simp
          · unfold nearK2
            rw [if_pos HKK.out, HN6.out, HNK2.out.1, Nat.pow_one]
        · have d50 : decide ((53 : Int) < (j : Int)) = false := by simp; omega
          have d50n : decide (53 < j) = false := by simp; omega
          have hK : ¬ 2 ^ 53 ≤ nearK N p := fun h => by
            have := (isLen_le HJ.out).1 (by omega : j ≤ 53)
            omega
          have HKK := Lib.hid hK
          clear hK
          go_wp2_with fail
          go_meet
          refine ⟨g4, m4, c4, lk2, ?_, ?_, hns5⟩
          · unfold nearP2
            rw [if_neg HKK.out]
          · unfold nearK2
            rw [if_neg HKK.out, HNK2.out.1]
      case rest =>
        obtain ⟨g5, m5, c5, lk3, rfl, hnk3, hns⟩ := hcut
        obtain ⟨K2, hK2⟩ : ∃ K, K = nearK2 N p := ⟨_, rfl⟩
        obtain ⟨P2, hP2⟩ : ∃ P, P = nearP2 N p := ⟨_, rfl⟩
        have hfin := HFIN.out.2
        rw [← hK2, ← hP2] at hfin
        rw [← hK2] at hnk3
        rw [← hP2]
        have hP3 : P2 ≤ 7000 := by rw [hP2]; unfold nearP2; split <;> omega
        have hl3 : lk3.length ≤ 7 := head_nat (sint_head hns.out.ks) (by rw [hnk3]; exact Nat.lt_of_lt_of_le hfin.2.1 (by decide))
        have hlen := spec_length 0 _ false lk3 wc hns.out.ks (by omega)
        rw [hnk3] at hlen
        have HLEN2 := Lib.hid hlen
        have HFIN2 := Lib.hid hfin
        have HN3 := Lib.hid (And.intro hnk3 hl3)
        obtain ⟨k0, k1, kf0, kf1⟩ := blk2 hns.out.k
        clear hlen hfin hK2 hP2 hnk3 hl3 hns5 HFIN HJ HNK2 q0 q1 qf0 qf1 HK
        go_wp2_with fail
        refine HLEN2.out.mono ?_
        rintro e w7 ⟨j2, rfl, hj2, hb7⟩
        have hns7 := Lib.hid (hns.out.below hb7)
        obtain ⟨x0, x1, xf0, xf1⟩ := blk2 hns7.out.x
        obtain ⟨q0, q1, qf0, qf1⟩ := blk2 hns7.out.k
        have HJ2 := Lib.hid hj2
        have hj2l : j2 ≤ 53 := (isLen_le hj2).2 HFIN2.out.2.1
        clear hj2 hb7 HLEN2 k0 k1 kf0 kf1
        by_cases hinf : 1024 < j2 + P2
        · have d59 : decide ((1024 : Int) < (j2 : Int) + (P2 : Int)) = true := by simp; omega
          have d59n : decide (1024 < j2 + P2) = true := by simp; omega
          have HR : Hid (rint N = infR) := (HFIN2.out.2.2 j2 HJ2.out).1 hinf
          clear hinf
          go_wp2_with fail
          refine (spec_inf neg _).mono ?_
          unfold FPost
          rintro e w' ⟨rfl, rfl⟩
          go_wp2
          go_ret
          exact ⟨by rw [HR.out]; rfl, hns7.out.b⟩
        · have d59 : decide ((1024 : Int) < (j2 : Int) + (P2 : Int)) = false := by simp; omega
          have d59n : decide (1024 < j2 + P2) = false := by simp; omega
          have hri := (HFIN2.out.2.2 j2 HJ2.out).2 (by omega)
          obtain ⟨R0, hR0⟩ : ∃ R, R = rint K2 := ⟨_, rfl⟩
          rw [← hR0] at hri
          have hcv : floatOfInt FloatKind.f64 (K2 : Int) = R0 := by
            show FloatKind.f64.nearest (K2 : Int) = R0
            rw [nearest_int, hR0, decide_eq_false (by omega), fw_false, Int.natAbs_natCast]
          have hRB : B52 ≤ R0 := by
            have hK0 := HFIN2.out.1
            have hlg := isLen_log HJ2.out hK0
            obtain ⟨r1, r2, _⟩ := rint_small K2 hK0 (by omega)
            rw [hR0, r1]
            omega
          have HRI := Lib.hid hri
          have HRB := Lib.hid hRB
          have HLOW := Lib.hid (spec_low 0 _ false lk3 w7 hns7.out.ks (by have := HN3.out.2; omega))
          have HLE : Hid (natOf lk3 % W64 = K2) := by
            unfold Hid
            rw [HN3.out.1]
            refine Nat.mod_eq_of_lt ?_
            have := HFIN2.out.2.1
            unfold W64
            omega
          rw [HLE.out] at HLOW
          clear hinf hri hRB hR0
          go_wp2_with fail
          refine HLOW.out.mono ?_
          rintro e w8 ⟨rfl, hb8⟩
          have hns8 := Lib.hid (hns7.out.below hb8)
          clear hb8 HLOW x0 x1 xf0 xf1 q0 q1 qf0 qf1
          go_wp2_with fail
          go_loopg [4, 9] P2 (fun q pv fv wr => ∃ r, pv = .int .i64 (q : Int) ∧ q ≤ P2 ∧ fv = .float .f64 r ∧ Hid (r + q * B52 = rint N) ∧ Hid (B52 ≤ r) ∧ Hid (NS w wr neg (.slice (some ⟨g, 0, none⟩) mx c) b1 (.slice (some ⟨g2, 0, none⟩) m2 c2) lm b2 (.slice (some ⟨g5, 0, none⟩) m5 c5) lk3))
          case atStart => exact ⟨R0, rfl, Nat.le_refl _, rfl, HRI.out.1.symm, HRB.out, hns8.out⟩
          case round =>
            obtain ⟨r, rfl, hq, rfl, hr, hrB, hns9⟩ := hrel
            cases gk with
            | zero =>
              have HRN : Hid (r = rint N) := by have := hr.out; unfold Hid; omega
              obtain ⟨x0, x1, xf0, xf1⟩ := blk2 hns9.out.x
              have hlt : r < S63 := by
                rw [HRN.out]
                exact Nat.lt_trans HRI.out.2 (by decide)
              have hng : Op.negFloat .f64 r = FW true r := neg_word false hlt
              clear hlt hr hrB
              cases neg with
              | false =>
                go_wp2
                go_ret
                refine ⟨?_, hns9.out.b⟩
                rw [← HRN.out, fw_false]
                rfl
              | true =>
                go_wp2
                go_ret
                refine ⟨?_, hns9.out.b⟩
                rw [← HRN.out]
                rfl
            | succ q =>
              have hr2 : r + B52 + q * B52 = rint N := by
                have := hr.out
                rw [Nat.add_mul, Nat.one_mul] at this
                omega
              have hlt : r + B52 < infR := by have := HRI.out.2; omega
              have hml : floatBits .mul .f64 r 4611686018427387904 = some (r + B52) := mul_two_f hrB.out hlt
              have HR2 := Lib.hid hr2
              have HB2 : Hid (B52 ≤ r + B52) := by unfold Hid; omega
              have hq1 : q ≤ P2 := by omega
              have dq : decide ((0 : Int) < ((q + 1 : Nat) : Int)) = true := by simp
              have eq1 : ((q + 1 : Nat) : Int) - 1 = (q : Int) := by omega
              obtain ⟨qi, hqi⟩ : ∃ qi : Int, qi = ((q + 1 : Nat) : Int) := ⟨_, rfl⟩
              rw [← hqi] at dq eq1 ⊢
              have hqr : 0 < qi ∧ qi ≤ 7000 := by omega
              obtain ⟨r3, hr3⟩ : ∃ r3, r3 = r + B52 := ⟨_, rfl⟩
              rw [← hr3] at hml HR2 HB2
              obtain ⟨hq01, hq02⟩ := hqr
              have hrun : ∀ W : World, (binOp .mul 31 (.float .f64 r) (.float .f64 4611686018427387904)).run Try.prog W = .ok (.float .f64 r3) W := fun W => run_float_arith W .mul _ .f64 r _ r3 hml
              clear hqi hr3 hr2 hlt hr hrB
              go_wp2
              go_roundg q
              case measure => omega
              case rel => exact ⟨r3, rfl, hq1, rfl, HR2, HB2, hns9⟩
end Go.Proofs.Ytndeolcamgnmdaa
namespace Go.Proofs.Ytndeolcamgnmdaa
open Go.RowKit
attribute [local go_sem ↓] Go.wp_at_zero Go.wp_at_succ
theorem nil_bsl (w : World) : BSl w (.slice none 0 0) [] :=
  ⟨none, 0, rfl, Nat.le_refl _, Nat.zero_le _, by simp, fun _ => ⟨rfl, rfl⟩, fun p h => by simp at h⟩
set_option maxHeartbeats 1000000 in
theorem minus_nil (w : World) :
    Calls Try.prog 29 #[.agg #[.bool false, .slice none 0 0]] w (NumPost 0 w) := by
  have C0 := Lib.hid (Below.refl (w.heap.size + 1 + 1) ((w.alloc (.cells #[.bool false, .slice none 0 0] 24)).alloc (.cells #[.bool false, .slice none 0 0] 24)))
  go_enter Try.func29, Try.ntmps29
  go_wp2_with fail
  refine (of_any true none 0 0 [] _ (nil_bsl _) (by simp)).mono ?_
  rintro e w2 ⟨v2, rfl, hsi, hb2⟩
  have HSI := Lib.hid (hsi.base (C := w.heap.size + 1 + 1) (by simp))
  have C1 := Lib.hid (C0.out.trans (hb2.mono (by simp)))
  obtain ⟨g2, c2, hv2⟩ := hsi.lit2
  obtain ⟨r, hr⟩ : ∃ r, r = (strip ([] : List Nat)).length := ⟨_, rfl⟩
  obtain ⟨nb, hnb⟩ : ∃ nb, nb = negOf true [] := ⟨_, rfl⟩
  rw [← hr, ← hnb] at hv2
  rw [← hnb] at HSI
  have HNB := Lib.hid hnb
  subst hv2
  obtain ⟨c0, c1, f0, f1⟩ := blk2 (two_alloc C1.out).2.1
  clear hsi hb2 hr hnb
  go_wp2
  refine bodyPost_ret (v := .agg #[.bool nb, .slice (some ⟨g2, 0, none⟩) r c2]) (by simp [results, Try.results29, go_sem, c0, c1]) rfl (num_fin (l := strip []) (by omega) HSI.out ?_ (two_alloc C1.out).2.2.2)
  rw [HNB.out]
  rfl
set_option maxRecDepth 20000 in
set_option maxHeartbeats 2000000 in
theorem sub_nil (B1 : Nat) (v1 : Value) (n1 : Bool) (l1 : List Nat) (w : World) (hv1 : SInt w B1 v1 n1 l1) (hl1 : l1.length ≤ 100000) :
    Calls Try.prog 14 #[v1, .agg #[.bool false, .slice none 0 0]] w (NumPost (intOf2 n1 l1) w) := by
  have HV1 := Lib.hid hv1
  have HL1 := Lib.hid hl1
  obtain ⟨g1, c1, rfl⟩ := hv1.lit2
  obtain ⟨m1, hm1⟩ : ∃ m, m = l1.length := ⟨_, rfl⟩
  rw [← hm1] at HV1 ⊢
  clear hv1 hl1 hm1
  have C0 := Lib.hid (Below.refl (w.heap.size + 1 + 1 + 1) (((w.alloc (.cells #[.bool n1, .slice (some ⟨g1, 0, none⟩) m1 c1] 24)).alloc (.cells #[.bool false, .slice none 0 0] 24)).alloc (.cells #[.bool false, .slice none 0 0] 24)))
  go_enter Try.func14, Try.ntmps14
  go_wp2_with fail
  go_region_held3 (fun W => W.cell? ⟨w.heap.size, 0, none⟩ = some (.bool n1) ∧ W.cell? ⟨w.heap.size, 1, none⟩ = some (.slice (some ⟨g1, 0, none⟩) m1 c1) ∧ W.cell? ⟨w.heap.size + 1, 0, none⟩ = some (.bool false) ∧ W.cell? ⟨w.heap.size + 1, 1, none⟩ = some (.slice none 0 0))
    (first | exact three_set C3.out _ _ | exact three_cells C3.out | exact three_cells C2.out | exact three_cells C0.out | go_keep)
    (first
    | (go_at_call 29; refine (minus_nil _).mono ?_; rintro e w2 ⟨v2, n3, l3, rfl, hsi, hby, hn3, hb2⟩; have C2 := Lib.hid (C0.out.drew.trans (hb2.mono (three_alloc C0.out.drew).2.2.2.1)); have HV3 := Lib.hid hsi; have HN3 := Lib.hid hn3; have HL3 : Hid (l3.length ≤ 100000) := (by have := intOf2_len (sint_head hsi) hn3 (by omega) (by omega); unfold Hid; omega); obtain ⟨g3, c3, hv3⟩ := hsi.lit2; obtain ⟨r3, hr3⟩ : ∃ r, r = l3.length := ⟨_, rfl⟩; rw [← hr3] at hv3; subst hv3; clear hsi hby hn3 hb2 hr3)
    | (go_at_call 19; refine (spec_add _ _ _ _ n1 n3 l1 l3 _ (HV1.out.below (three_alloc C2.out).2.2.2.2) HV3.out HL1.out HL3.out).mono ?_; rintro e w3 ⟨v4, n4, l4, rfl, hsi, hby, hn4, hb3⟩; have HSI := Lib.hid (hsi.base (C := w.heap.size + 1 + 1 + 1) (three_alloc C2.out).2.2.2.1); have HN4 := Lib.hid hn4; have C3 := Lib.hid (C2.out.trans (hb3.mono (three_alloc C2.out).2.2.2.1)); obtain ⟨g4, c4, hv4⟩ := hsi.lit2; obtain ⟨r4, hr4⟩ : ∃ r, r = l4.length := ⟨_, rfl⟩; rw [← hr4] at hv4; rw [hv4] at HSI; subst hv4; obtain ⟨k0, k1, f0, f1⟩ := blk2 (three_alloc C3.out).2.2.1; clear hsi hby hn4 hb3 hr4))
  all_goals
    go_wp2
    refine bodyPost_ret (v := .agg #[.bool n4, .slice (some ⟨g4, 0, none⟩) r4 c4]) (by simp [results, Try.results14, go_sem, k0, k1]) rfl (num_fin (l := l4) (by omega) HSI.out ?_ (three_alloc C3.out).2.2.2.2)
    rw [HN4.out, HN3.out]
    omega
end Go.Proofs.Ytndeolcamgnmdaa
namespace Go.Proofs.Ytndeolcamgnmdaa
open Go.RowKit
attribute [local go_sem ↓] Go.wp_at_zero Go.wp_at_succ
theorem isLen_zero {j : Nat} (h : IsLen 0 j) : j = 0 := by
  rcases h.2 with h | h
  · exact h
  · have := Nat.pow_pos (n := j - 1) (by omega : 0 < 2)
    omega
set_option maxRecDepth 100000 in
set_option maxHeartbeats 2000000 in
theorem lsh_zero (g1 m1 c1 k : Nat) (w : World) (h0 : m1 = 0) :
    Calls Try.prog 15 #[.agg #[.bool false, .slice (some ⟨g1, 0, none⟩) m1 c1], .int .i64 (k : Int)] w fun e w' => e = .returned (.agg #[.bool false, .slice none 0 0]) ∧ Below w.heap.size w w' := by
  have H0 := Lib.hid h0
  clear h0
  have C0 := Lib.hid (Below.refl (w.heap.size + 1 + 1) ((w.alloc (.cells #[.bool false, .slice (some ⟨g1, 0, none⟩) m1 c1] 24)).alloc (.cells #[.bool false, .slice none 0 0] 24)))
  go_enter Try.func15, Try.ntmps15
  go_wp2_with fail
  refine (zero_any false _ m1 c1 _).mono ?_
  rintro e w1 ⟨he, hb1⟩
  have e0 : ((m1 : Int) == 0) = true := by rw [beq_iff_eq]; have := H0.out; omega
  rw [e0] at he
  subst he
  have C1 := Lib.hid (C0.out.trans (hb1.mono (by simp)))
  obtain ⟨x0, x1, f0, f1⟩ := blk2 (two_alloc C1.out).2.1
  clear hb1 e0
  go_wp2
  exact bodyPost_ret (v := .agg #[.bool false, .slice none 0 0]) (by simp [results, Try.results15, go_sem, x0, x1]) rfl ⟨rfl, ((two_alloc C1.out).2.2.2.setCell (p := ⟨w.heap.size + 1, 0, none⟩) (by simp) _).setCell (p := ⟨w.heap.size + 1, 1, none⟩) (by simp) _⟩
set_option maxRecDepth 100000 in
set_option maxHeartbeats 8000000 in
theorem nearest_zero (B : Nat) (v : Value) (neg : Bool) (l : List Nat) (w : World) (hv : SInt w B v neg l) (hl : l.length ≤ 800) (h0 : l = []) :
    Calls Try.prog 5 #[v] w (NearPost neg (natOf l) w) := by
  have HV := Lib.hid hv
  obtain ⟨vs, rfl, hob, hh, hn⟩ := hv
  obtain ⟨g, c, hvs, hg1, hg2, _, _⟩ := hob.form
  obtain ⟨mx, hm⟩ : ∃ m, m = l.length := ⟨_, rfl⟩
  rw [← hm] at hvs
  subst hvs
  obtain ⟨N, hN⟩ : ∃ N, N = natOf l := ⟨_, rfl⟩
  have hN0 : N = 0 := by rw [hN, h0]; rfl
  have HNEG : Hid (neg = false) := by
    unfold Hid
    cases neg with
    | false => rfl
    | true => exact absurd h0 (hn rfl)
  have HOB := Lib.hid hob
  have HN := Lib.hid hN
  have HL := Lib.hid hl
  have HB0 := Lib.hid ((Below.refl w.heap.size w).alloc (Nat.le_refl _) (.cells #[.bool neg, .slice (some ⟨g, 0, none⟩) mx c] 24))
  have HX0 := Lib.hid (Blk.new w 24 #[.bool neg, .slice (some ⟨g, 0, none⟩) mx c])
  rw [← hN]
  clear hob hn hh hl hm hN h0
  go_enter Try.func5, Try.ntmps5
  go_wp2_with fail
  refine (spec_length B _ neg l _ (HV.out.below HB0.out) (by have := HL.out; omega)).mono ?_
  rw [← HN.out]
  rintro e w1 ⟨k, rfl, hk, hb1⟩
  have hkl : k ≤ 6400 := len_of HL.out HOB.out.2.2 HN.out.symm hk
  obtain ⟨p, hp⟩ : ∃ p : Nat, max ((k : Int) - 53) 0 = (p : Int) := ⟨k - 53, by omega⟩
  have hpk : p = k - 53 := by omega
  have HK := Lib.hid (And.intro hk hpk)
  have HB1 := Lib.hid (HB0.out.trans (hb1.mono HB0.out.size))
  have HX1 := Lib.hid (HX0.out.below hb1 HX0.out.lt)
  obtain ⟨x0, x1, _, _⟩ := blk2 HX1.out
  clear hb1 hk hpk
  go_wp2_with fail
  refine (of_any false _ _ _ l w1 ((HOB.out.below HB1.out).bsl) (by have := HL.out; omega)).mono ?_
  rintro e w2 ⟨v2, rfl, hsi, hb2⟩
  have hlm : natOf (strip l) = N := by rw [natOf_strip]; exact HN.out.symm
  obtain ⟨lm, hlme⟩ : ∃ lm, lm = strip l := ⟨_, rfl⟩
  rw [show negOf false l = false from rfl, ← hlme] at hsi
  rw [← hlme] at hlm
  have hlml : lm.length ≤ 800 := by rw [hlme]; exact Nat.le_trans (strip_le _) HL.out
  have hbm : ∀ x ∈ lm, x < 256 := by obtain ⟨_, _, ho, _⟩ := hsi; exact ho.2.2
  have hp8 : p ≤ 8 * lm.length := by
    have := len_ge hbm hlm HK.out.1
    have := HK.out.2
    omega
  obtain ⟨g2, c2, hv2⟩ := hsi.lit2
  obtain ⟨m2, hm2⟩ : ∃ m, m = lm.length := ⟨_, rfl⟩
  rw [← hm2] at hv2
  subst hv2
  have HB2 := Lib.hid (HB1.out.trans (hb2.mono HB1.out.size))
  have HX2 := Lib.hid (HX1.out.below hb2 HX1.out.lt)
  have HS2 := Lib.hid (hsi.base (C := 0) (Nat.zero_le _))
  have HLM := Lib.hid (And.intro hlm (And.intro hlml hp8))
  have HA2 := Lib.hid ((Below.refl w2.heap.size w2).alloc (Nat.le_refl _) (.cells #[.bool false, .slice (some ⟨g2, 0, none⟩) m2 c2] 24))
  have hx2 := HX2.out.lt
  clear hsi hb2 hlm hlml hbm hp8 hm2 hlme x0 x1
  go_wp2_with fail
  refine (spec_rsh_pos 0 _ lm p _ (HS2.out.below HA2.out) (by have := HLM.out.2.1; omega) HLM.out.2.2).mono ?_
  rintro e w3 ⟨v3, lk, rfl, hsi, hnk, hb3⟩
  rw [HLM.out.1] at hnk
  obtain ⟨g3, c3, hv3⟩ := hsi.lit2
  obtain ⟨m3, hm3⟩ : ∃ m, m = lk.length := ⟨_, rfl⟩
  rw [← hm3] at hv3
  subst hv3
  obtain ⟨b1, hb1e⟩ : ∃ b1, b1 = w2.heap.size := ⟨_, rfl⟩
  obtain ⟨b2, hb2e⟩ : ∃ b2, b2 = w3.heap.size := ⟨_, rfl⟩
  have hsz3 := hb3.size
  simp only [World.size_alloc] at hsz3
  obtain ⟨W4, hW4⟩ : ∃ W4, W4 = w3.alloc (.cells #[.bool false, .slice (some ⟨g3, 0, none⟩) m3 c3] 24) := ⟨_, rfl⟩
  have HNS : Hid (NS w W4 neg (.slice (some ⟨g, 0, none⟩) mx c) b1 (.slice (some ⟨g2, 0, none⟩) m2 c2) lm b2 (.slice (some ⟨g3, 0, none⟩) m3 c3) lk) := by
    rw [hW4]
    have hk3 := (Blk.new w2 24 #[.bool false, .slice (some ⟨g2, 0, none⟩) m2 c2]).below hb3 (by simp)
    refine ⟨((HX2.out.alloc _).below hb3 (by simp; omega)).alloc _, by rw [hb1e]; exact hk3.alloc _, ((HS2.out.below HA2.out).below hb3).below ((Below.refl _ _).alloc (Nat.le_refl _) _), by rw [hb2e]; exact Blk.new _ _ _, (hsi.base (C := 0) (Nat.zero_le _)).below ((Below.refl _ _).alloc (Nat.le_refl _) _), by rw [hb1e]; exact hx2, by omega, ?_⟩
    exact ((HB2.out.alloc HB2.out.size _).trans (hb3.mono (by simp; have := HB2.out.size; omega))).alloc (by have := HB2.out.size; omega) _
  have HNK := Lib.hid (And.intro hnk hm3)
  have HBE := Lib.hid (And.intro hb1e hb2e)
  have HW4 := Lib.hid hW4
  clear hW4 hsi hnk hb3 hm3 hsz3 hb1e hb2e HX1 HX0 HB0 HX2 HB2 HS2 HA2 HB1 hx2
  go_upto_region 5 with fail
  rw [← HW4.out, ← HBE.out.1, ← HBE.out.2]
  have HLK : Hid (m3 = 0 ∧ lk = []) := by
    obtain ⟨hnk, hm3⟩ := HNK.out
    have hh := sint_head HNS.out.ks
    rw [hN0, Nat.zero_div] at hnk
    have := (natOf_eq_zero hh).1 hnk
    exact ⟨by rw [hm3, this]; rfl, this⟩
  go_cut [7] (fun v wx => ∃ b3 nl sl ll, v = .pointer (some ⟨b3, 0, none⟩) ∧ Blk wx b3 24 #[.bool nl, sl] ∧ SInt wx 0 (.agg #[.bool nl, sl]) nl ll ∧ intOf2 nl ll = (N : Int) - ((N / 2 ^ p * 2 ^ p : Nat) : Int) ∧ b2 < b3 ∧ Hid (NS w wx neg (.slice (some ⟨g, 0, none⟩) mx c) b1 (.slice (some ⟨g2, 0, none⟩) m2 c2) lm b2 (.slice (some ⟨g3, 0, none⟩) m3 c3) lk))
  case first =>
    have K0 : Hid (Ch W4.heap.size W4 W4) := ⟨Below.refl _ _, Nat.le_refl _⟩
    have HLZ := Lib.hid (fun W => lsh_zero g3 m3 c3 p W HLK.out.1)
    have q4 := HNS.out.k.lt
    have q41 := HNS.out.m.lt
    go_region_held3 (fun W => W.cell? ⟨b1, 0, none⟩ = some (.bool false) ∧ W.cell? ⟨b1, 1, none⟩ = some (.slice (some ⟨g2, 0, none⟩) m2 c2) ∧ W.cell? ⟨b2, 0, none⟩ = some (.bool false) ∧ W.cell? ⟨b2, 1, none⟩ = some (.slice (some ⟨g3, 0, none⟩) m3 c3))
    (((repeat (first | (with_reducible refine NS4.al ?_ _) | (with_reducible refine NS4.st ?_ _ _ ?_) | (with_reducible refine NS4.dr ?_))); (first | (with_reducible exact HNS.out.cells K3.out) | (with_reducible exact HNS.out.cells K2.out) | (with_reducible exact HNS.out.cells K0.out)); (all_goals (simp; try omega))))
    (first
    | (go_at_call 15; (with_reducible refine (HLZ.out _).mono ?_); rintro e w5 ⟨rfl, hb5⟩; have K2 : Hid (Ch W4.heap.size W4 w5) := (by first | (with_reducible exact Lib.hid (K0.out.to hb5)) | (with_reducible exact Lib.hid ((K0.out.al _).to hb5)) | (with_reducible exact Lib.hid ((K0.out.dr).to hb5)) | (with_reducible exact Lib.hid (((K0.out.al _).dr).to hb5))); (first | (with_reducible have ZA := al1 hb5) | (with_reducible have ZA := al1d hb5) | skip); have q5 := hb5.size; (try simp at q5); clear hb5)
    | (go_at_call 14; refine (sub_nil 0 _ false lm _ (HNS.out.ms.below ?sb) (by have := HLM.out.2.1; omega)).mono ?_; (case sb => first | (with_reducible exact K2.out.b) | (with_reducible exact (K2.out.al _).b) | (with_reducible exact (K2.out.dr).b) | (with_reducible exact ((K2.out.al _).dr).b)); skip; rintro e w6 ⟨v6, nl, ll, rfl, hsi, hby, hn6, hb6⟩; have K3 : Hid (Ch W4.heap.size W4 w6) := (by first | (with_reducible exact Lib.hid (K2.out.to hb6)) | (with_reducible exact Lib.hid ((K2.out.al _).to hb6)) | (with_reducible exact Lib.hid ((K2.out.dr).to hb6)) | (with_reducible exact Lib.hid (((K2.out.al _).dr).to hb6))); (first | (with_reducible have ZB := al1 hb6) | (with_reducible have ZB := al1d hb6) | skip); (first | (with_reducible have ZC := ZA.below (bel_up1 hb6) ZA.lt) | skip); have q6 := hb6.size; (try simp at q6); have HS6 := Lib.hid (hsi.base (C := 0) (Nat.zero_le _)); obtain ⟨g6, c6, hv6⟩ := hsi.lit2; obtain ⟨m6, hm6⟩ : ∃ m, m = ll.length := ⟨_, rfl⟩; rw [← hm6] at hv6; rw [hv6] at HS6; subst hv6; have HG6 := sint_g hsi; (try simp at HG6); have HN6 := Lib.hid hn6; (first | (have HY := blk2 ZC; have llc := ZC.lt; obtain ⟨y0, y1, yf0, yf1⟩ := HY) | skip); (first | (have HY := blk2 ZB; have llb := ZB.lt; obtain ⟨s0, s1, sf0, sf1⟩ := HY) | skip); clear hsi hby hn6 hb6 hm6))
    all_goals
      go_wp2_with fail
      go_meet
      refine ⟨_, nl, .slice (some ⟨g6, 0, none⟩) m6 c6, ll, rfl, ?_, ?_, ?_, ?_, Lib.hid (HNS.out.below ?_)⟩
      · ((repeat (first | (with_reducible exact two_put ZB _ _) | (with_reducible exact two_put ZC _ _) | (with_reducible exact Blk.new _ _ _) | (with_reducible refine Blk.alloc ?_ _) | (with_reducible refine blk_far ?_ _ _ ?_))); (all_goals (simp; try omega)))
      · ((repeat (first | (with_reducible exact HS6.out) | (with_reducible refine sint_al ?_ _) | (with_reducible refine sint_set ?_ _ _ ?_))); (all_goals (simp; try omega)))
      · rw [HN6.out]
        simp only [intOf2, Bool.false_eq_true, if_false, HLM.out.1]
        rw [hN0]
        simp
      · omega
      · have k3s := K3.out.s
        ((repeat (first | (with_reducible exact K3.out.b) | (with_reducible refine bel_al ?_ _ ?_) | (with_reducible refine bel_set ?_ _ _ ?_))); (all_goals ((try simp); try omega)))
  case rest =>
    obtain ⟨b3, nl, sl, ll, rfl, hb3, hs3, hn3, hlt3, hns⟩ := hcut
    clear hb3 hs3 hn3 hlt3 HW4 HBE
    have hp0 : p = 0 := by
      have := HK.out.1.2
      have := HK.out.2
      rcases HK.out.1.2 with h | h
      · omega
      · have := Nat.pow_pos (n := k - 1) (by omega : 0 < 2)
        omega
    subst hp0
    obtain ⟨k0, k1, kf0, kf1⟩ := blk2 hns.out.k
    have hlkn : natOf lk = 0 := by rw [HLK.out.2]; rfl
    have hlen := spec_length 0 _ false lk wc hns.out.ks (by rw [HLK.out.2]; simp)
    rw [hlkn] at hlen
    have HLEN := Lib.hid hlen
    have HLN := Lib.hid hlkn
    clear hlen hlkn
    go_wp2_with fail
    refine HLEN.out.mono ?_
    rintro e w5 ⟨j, rfl, hj, hb5⟩
    have hj0 : j = 0 := (isLen_zero hj)
    subst hj0
    have hns5 := Lib.hid (hns.out.below hb5)
    obtain ⟨q0, q1, qf0, qf1⟩ := blk2 hns5.out.k
    have HLEN2 := Lib.hid (spec_length 0 _ false lk w5 hns5.out.ks (by rw [HLK.out.2]; simp))
    rw [HLN.out] at HLEN2
    clear hj hb5 HLEN k0 k1 kf0 kf1
    go_wp2_with fail
    refine HLEN2.out.mono ?_
    rintro e w6 ⟨j, rfl, hj, hb6⟩
    have hj0 : j = 0 := (isLen_zero hj)
    subst hj0
    have hns6 := Lib.hid (hns5.out.below hb6)
    obtain ⟨r0, r1, rf0, rf1⟩ := blk2 hns6.out.k
    have HLOW := Lib.hid (spec_low 0 _ false lk w6 hns6.out.ks (by rw [HLK.out.2]; simp))
    rw [HLN.out, Nat.zero_mod] at HLOW
    clear hj hb6 HLEN2 q0 q1 qf0 qf1
    go_wp2_with fail
    refine HLOW.out.mono ?_
    rintro e w7 ⟨rfl, hb7⟩
    have hns7 := Lib.hid (hns6.out.below hb7)
    obtain ⟨x0, x1, _, _⟩ := blk2 hns7.out.x
    clear hb7 HLOW r0 r1 rf0 rf1
    have hr0 : rint 0 = 0 := rfl
    have hcv : floatOfInt FloatKind.f64 0 = 0 := by
      show FloatKind.f64.nearest 0 = 0
      decide
    obtain rfl := HNEG.out
    have HR : Hid (FW false (rint N) = 0) := by
      unfold Hid
      rw [hN0, hr0]
      rfl
    clear hr0
    go_wp2_with fail
    refine wp_loop_rounds 1 ?_
    rw [rounds_succ]
    go_wp2
    go_ret
    refine ⟨?_, hns7.out.b⟩
    rw [HR.out]
    rfl
theorem nearest_any (B : Nat) (v : Value) (neg : Bool) (l : List Nat) (w : World) (hv : SInt w B v neg l) (hl : l.length ≤ 800) :
    Calls Try.prog 5 #[v] w (NearPost neg (natOf l) w) := by
  by_cases h : l = []
  · exact nearest_zero B v neg l w hv hl h
  · exact spec_nearest B v neg l w hv hl h
end Go.Proofs.Ytndeolcamgnmdaa
