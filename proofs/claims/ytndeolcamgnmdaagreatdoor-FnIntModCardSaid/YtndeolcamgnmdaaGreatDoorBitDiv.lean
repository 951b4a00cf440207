/- The reference's division of magnitudes, bit by bit. -/
import Derived.Test.YtndeolcamgnmdaaGreatDoorModBaseE
import Derived.Test.YtndeolcamgnmdaaGreatDoorSpecNot
import Derived.Deep.LoopGhost
import Derived.Deep.DeepCutAuto
set_option linter.unusedVariables false
set_option linter.unusedSimpArgs false
set_option linter.unnecessarySimpa false
namespace Go.Proofs.YtndeolcamgnmdaaGreatDoor
open Go.RowKit
attribute [local go_sem ↓] Go.wp_at_zero Go.wp_at_succ
theorem ob_one (w : World) (x : Nat) (hx : x < 256) : OB (w.alloc (.cells #[.int .u8 (x : Int)] 5)) w.heap.size (.slice (some ⟨w.heap.size, 0, none⟩) 1 1) [x] :=
  ⟨⟨rfl, .inr ⟨w.heap.size, 1, _, rfl, Nat.le_refl _, heap_alloc_new w _, Nat.le_refl _, by unfold maxLen; omega, rfl, rfl⟩⟩, by simp, by intro y hy; simp at hy; omega⟩
theorem head_nat {l : List Nat} (hh : l.head? ≠ some 0) {k : Nat} (hb : natOf l < 256 ^ k) : l.length ≤ k := natOf_lenle hh k hb
theorem or8 (x k : Nat) (hx : x < 256) (hk : k < 8) (h0 : x % 2 ^ (k + 1) = 0) : bits .or .u8 (x : Int) ((2 : Int) ^ k % 256) = ((x + 2 ^ k : Nat) : Int) := by
  have hall : ∀ k : Fin 8, ∀ x : Fin 256, x.val % 2 ^ (k.val + 1) = 0 → bits .or .u8 ((x.val : Nat) : Int) ((2 : Int) ^ k.val % 256) = ((x.val + 2 ^ k.val : Nat) : Int) := by decide +kernel
  exact hall ⟨k, hk⟩ ⟨x, hx⟩ h0
theorem one_only' (w : World) (g j : Nat) (u : Value) : Only (· = g) w (w.setCell ⟨g, j, none⟩ u) := (Only.refl (fun x => x = g) w).setCell (p := ⟨g, j, none⟩) (.inl (rfl : g = g)) u
/-- What a division has so far: the quotient's bytes, what is left. -/
def DRel (w : World) (m1 A Bn k : Nat) (lv : Value) (wr : World) : Prop :=
  ∃ ll ql, OB wr (w.heap.size + 1) lv ll ∧ ll.head? ≠ some 0 ∧ natOf ll = (A / 2 ^ k) % Bn ∧ OB wr w.heap.size (.slice (some ⟨w.heap.size, 0, none⟩) m1 m1) ql ∧ ql.length = m1 ∧ natOf ql = (A / 2 ^ k) / Bn * 2 ^ k ∧ Below w.heap.size w wr
/-- Within a round: what is left, doubled, with the next bit. -/
def DMid (w : World) (m1 A Bn i : Nat) (lv : Value) (wr : World) : Prop :=
  ∃ ll ql, OB wr (w.heap.size + 1) lv ll ∧ ll.head? ≠ some 0 ∧ natOf ll = 2 * ((A / 2 ^ (i + 1)) % Bn) + bitAt A i ∧ OB wr w.heap.size (.slice (some ⟨w.heap.size, 0, none⟩) m1 m1) ql ∧ ql.length = m1 ∧ natOf ql = (A / 2 ^ (i + 1)) / Bn * 2 ^ (i + 1) ∧ Below w.heap.size w wr
def DivPost (A Bn : Nat) (w : World) (e : Ending) (w' : World) : Prop :=
  ∃ v1 v2 l1 l2, e = .returned (.tuple #[v1, v2]) ∧ OB w' w.heap.size v1 l1 ∧ OB w' w.heap.size v2 l2 ∧ l1.head? ≠ some 0 ∧ l2.head? ≠ some 0 ∧ natOf l1 = A / Bn ∧ natOf l2 = A % Bn ∧ Below w.heap.size w w'
theorem drel_start {w W1 : World} {m1 A Bn : Nat} (hA : A < 2 ^ (8 * m1)) (hob : OB W1 w.heap.size (.slice (some ⟨w.heap.size, 0, none⟩) m1 m1) (List.replicate m1 0)) (hb : Below w.heap.size w W1) (hz : w.heap.size < W1.heap.size) :
    DRel w m1 A Bn (8 * m1) (.slice (some ⟨W1.heap.size, 0, none⟩) 0 0) (W1.alloc (.cells #[] 5)) := by
  have e : A / 2 ^ (8 * m1) = 0 := Nat.div_eq_of_lt hA
  refine ⟨[], _, ob_new W1 _ (by omega), by simp, ?_, hob.below ((Below.refl _ _).alloc (Nat.le_refl _) _), by simp, ?_, hb.alloc hb.size _⟩
  · rw [e]; simp [natOf]
  · rw [e, natOf_zeros]; simp
set_option maxRecDepth 100000 in
set_option maxHeartbeats 4000000 in
theorem spec_split (B1 B2 g1 c1 g2 c2 m1 m2 : Nat) (xs ys : List Nat) (w : World) (h1 : OB w B1 (.slice (some ⟨g1, 0, none⟩) m1 c1) xs) (h2 : OB w B2 (.slice (some ⟨g2, 0, none⟩) m2 c2) ys) (hl1 : m1 ≤ 1000) (hl2 : m2 ≤ 1000) (hy : ys.head? ≠ some 0) (h0 : 0 < natOf ys) :
    Calls Tryz.prog 13 #[.slice (some ⟨g1, 0, none⟩) m1 c1, .slice (some ⟨g2, 0, none⟩) m2 c2] w (DivPost (natOf xs) (natOf ys) w) := by
  have hm1 : m1 = xs.length := by obtain ⟨_, _, hv, _⟩ := h1.form; injection hv
  have hm2 : m2 = ys.length := by obtain ⟨_, _, hv, _⟩ := h2.form; injection hv
  obtain ⟨W1, hmk, hob, hbw⟩ := bytes_made m1 (by omega) w
  have hz : w.heap.size < W1.heap.size := (hob.1.lt _ rfl).2
  have hA : natOf xs < 2 ^ (8 * m1) := by rw [hm1]; exact natOf_pow2 xs h1.2.2
  have hBl : natOf ys < 256 ^ m2 := by rw [hm2]; exact natOf_lt ys h2.2.2
  obtain ⟨k0, hk0⟩ : ∃ k0 : Nat, (8 : Int) * (m1 : Int) = (k0 : Int) := ⟨8 * m1, by omega⟩
  have hk1 : k0 ≤ 8000 := by omega
  have HK0 := Lib.hid (show k0 = 8 * m1 by omega)
  have HREL := Lib.hid (drel_start (Bn := natOf ys) hA hob hbw hz)
  have H1 := Lib.hid h1
  have H2 := Lib.hid h2
  have HM1 := Lib.hid hm1
  have HY := Lib.hid hy
  have HBL := Lib.hid hBl
  have HB0 := Lib.hid h0
  obtain ⟨A, hA1⟩ : ∃ A, A = natOf xs := ⟨_, rfl⟩
  obtain ⟨Bn, hB1⟩ : ∃ Bn, Bn = natOf ys := ⟨_, rfl⟩
  have HA := Lib.hid hA1
  have HBn := Lib.hid hB1
  rw [← hA1, ← hB1] at HREL ⊢
  rw [← hB1] at HB0 HBL
  clear h1 h2 hm1 hm2 hob hbw hA hBl hy h0 hA1 hB1
  go_enter Tryz.func13, Tryz.ntmps13
  go_wp2_with fail
  go_loopg [7, 8] k0 (fun k lv iv wr => iv = .int .i64 ((k : Int) - 1) ∧ k ≤ k0 ∧ Hid (DRel w m1 A Bn k lv wr))
  case atStart => exact ⟨rfl, Nat.le_refl _, by rw [HK0.out]; exact HREL.out⟩
  case round =>
    obtain ⟨rfl, hk, hrel⟩ := hrel
    cases gk with
    | zero =>
      obtain ⟨ll, ql, h1, h2, h3, h4, h5, h6, h7⟩ := hrel.out
      rw [show (((0 : Nat) : Int) - 1) = -1 by rfl]
      have HC := Lib.hid (cut_any _ _ _ ql wr h4.bsl (by omega))
      have HL := Lib.hid h1
      have HR := Lib.hid (And.intro h2 (And.intro h3 (And.intro h6 h7)))
      clear h1 h2 h3 h4 h5 h6 h7
      go_wp2_with fail
      refine HC.out.mono ?_
      rintro e w2 ⟨v, rfl, hob2, hb2⟩
      have HO2 := Lib.hid hob2
      have HB2 := Lib.hid hb2
      clear hob2 hb2 HC
      go_wp2
      go_ret2
      obtain ⟨h2, h3, h6, h7⟩ := HR.out
      rw [Nat.pow_zero, Nat.div_one] at h3
      rw [Nat.pow_zero, Nat.div_one, Nat.mul_one] at h6
      exact ⟨v, _, _, ll, rfl, HO2.out.base h7.size, (HL.out.below HB2.out).base (by omega), strip_head ql, h2, by rw [natOf_strip, h6], h3, h7.trans (HB2.out.mono h7.size)⟩
    | succ i =>
      rw [show (((i + 1 : Nat) : Int) - 1) = (i : Int) by omega]
      obtain ⟨ll, ql, h1, h2, h3, h4, h5, h6, h7⟩ := hrel.out
      have hnn : natOf ll < Bn := by rw [h3]; exact Nat.mod_lt _ HB0.out
      have hll : ll.length ≤ m2 := head_nat h2 (Nat.lt_trans hnn HBL.out)
      obtain ⟨gl, cl, hvl, hgl1, hgl2, _, _⟩ := h1.form
      obtain ⟨n, hn⟩ : ∃ n, n = ll.length := ⟨_, rfl⟩
      rw [← hn] at hvl
      subst hvl
      have HSUM := Lib.hid (spec_sum _ _ gl cl gl cl n n ll ll wr h1 h1 (by omega) (by omega))
      have HQ := Lib.hid (And.intro h4 (And.intro h5 (And.intro h6 h7)))
      have HR := Lib.hid (And.intro h3 hnn)
      clear h1 h2 h3 h4 h5 h6 h7 hnn hll hn hrel
      go_wp2_with fail
      refine HSUM.out.mono ?_
      rintro e w2 ⟨v2, l2, rfl, ho2, hh2, hn2, hb2⟩
      have hbw := HQ.out.2.2.2
      have HB2 := Lib.hid (hbw.trans (hb2.mono hbw.size))
      have HO2 := Lib.hid (ho2.base (C := w.heap.size + 1) (by omega))
      have HQ2 := Lib.hid (HQ.out.1.below hb2)
      have HN2 := Lib.hid (And.intro hh2 hn2)
      have HBIT := Lib.hid (bit_any B1 g1 m1 c1 xs i w2 (H1.out.below HB2.out) HM1.out (by have := HK0.out; omega) (by omega))
      rw [← HA.out] at HBIT
      clear ho2 hh2 hn2 hb2 HSUM hbw
      obtain ⟨b, hb⟩ : ∃ b, b = bitAt A i := ⟨_, rfl⟩
      have HBB := Lib.hid hb
      have hb01 : b = 0 ∨ b = 1 := by rw [hb]; unfold bitAt; omega
      rw [← hb] at HBIT
      clear hb
      go_wp2_with fail
      refine HBIT.out.mono ?_
      unfold IntPost
      rintro e w' ⟨rfl, rfl⟩
      go_upto_if 27 with fail
      go_cut [7] (fun v wx => Hid (DMid w m1 A Bn i v wx))
      case first =>
        obtain ⟨h4, h5, h6, h7⟩ := HQ.out
        rcases hb01 with rfl | rfl
        · go_wp2_with fail
          go_meet
          refine ⟨l2, ql, HO2.out, HN2.out.1, ?_, HQ2.out, h5, h6, HB2.out⟩
          rw [HN2.out.2, HR.out.1, ← HBB.out]
          omega
        · obtain ⟨g3, c3, hv3, _, _, _, _⟩ := HO2.out.form
          obtain ⟨n3, hn3⟩ : ∃ n, n = l2.length := ⟨_, rfl⟩
          rw [← hn3] at hv3
          subst hv3
          have hba := (Below.refl w2.heap.size w2).alloc (Nat.le_refl _) (.cells #[.int .u8 1] 5)
          have hn3l : n3 ≤ 2000 := by
            rw [hn3]
            have : natOf l2 < 256 ^ (m2 + 1) := by rw [HN2.out.2, Nat.pow_succ]; have := HBL.out; have := HR.out.2; omega
            have := head_nat HN2.out.1 this
            omega
          have HSUM := Lib.hid (spec_sum _ _ g3 c3 w2.heap.size 1 n3 1 l2 [1] _ (HO2.out.below hba) (ob_one w2 1 (by omega)) (by omega) (by omega))
          have HBA := Lib.hid hba
          clear hba hn3 h4 h5 h6 h7
          go_wp2_with fail
          refine HSUM.out.mono ?_
          rintro e w4 ⟨v4, l4, rfl, ho4, hh4, hn4, hb4⟩
          have hb24 := HBA.out.trans (hb4.mono HBA.out.size)
          have HBX := Lib.hid hb24
          have HX := Lib.hid (And.intro ho4 (And.intro hh4 hn4))
          clear ho4 hh4 hn4 hb4 HSUM hb24
          go_wp2_with fail
          go_meet
          obtain ⟨h4, h5, h6, h7⟩ := HQ.out
          obtain ⟨ho4, hh4, hn4⟩ := HX.out
          refine ⟨l4, ql, ho4.base ?_, hh4, ?_, HQ2.out.below HBX.out, h5, h6, HB2.out.trans (HBX.out.mono HB2.out.size)⟩
          · have h8 := HB2.out.size
            have h9 := HBA.out.size
            have h10 := (HQ2.out.1.lt _ rfl).2
            omega
          · rw [hn4, HN2.out.2, HR.out.1, ← HBB.out]
            simp [natOf]
            omega
      case rest =>
        obtain ⟨ll, ql, h1, h2, h3, h4, h5, h6, h7⟩ := hcut.out
        clear HQ HQ2 HO2 HN2 HB2 HR HBB
        obtain ⟨gl, cl, hvl, hgl1, hgl2, _, _⟩ := h1.form
        obtain ⟨n, hn⟩ : ∃ n, n = ll.length := ⟨_, rfl⟩
        rw [← hn] at hvl
        subst hvl
        have hst := div_step A Bn i HB0.out
        rw [← h3] at hst
        have hnl : n ≤ 2000 := by
          rw [hn]
          have : natOf ll < 256 ^ (m2 + 1) := by rw [Nat.pow_succ]; have := HBL.out; omega
          have := head_nat h2 this
          omega
        have hord := order_full (w.heap.size + 1) B2 gl cl g2 c2 n m2 ll ys wc h1 (H2.out.below h7) h2 HY.out
        rw [← HBn.out] at hord
        obtain ⟨sg, hsg⟩ : ∃ sg, sg = sgn ((natOf ll : Int) - (Bn : Int)) := ⟨_, rfl⟩
        unfold OrdPost at hord
        rw [← hsg] at hord
        have HORD := Lib.hid hord
        have HQ := Lib.hid (And.intro h4 (And.intro h5 (And.intro h6 h7)))
        have HL := Lib.hid (And.intro h1 (And.intro h2 hn))
        have HST := Lib.hid hst
        have HSG := Lib.hid hsg
        clear h1 h2 h3 h4 h5 h6 h7 hn hst hord hsg hcut
        by_cases hge : Bn ≤ natOf ll
        · have hs0 : 0 ≤ sg := by
            rw [HSG.out]
            unfold sgn
            split
            · omega
            · split <;> omega
          have hd : decide (0 ≤ sg) = true := decide_eq_true hs0
          have HGE := Lib.hid hge
          clear hge hs0
          go_wp2_with fail
          refine HORD.out.mono ?_
          rintro e w3 ⟨rfl, hb3⟩
          have hbw := HQ.out.2.2.2
          have HB3 := Lib.hid (hbw.trans (hb3.mono hbw.size))
          have HLESS := Lib.hid (spec_less (w.heap.size + 1) B2 gl cl g2 c2 n m2 ll ys w3 (HL.out.1.below hb3) (H2.out.below HB3.out) (by omega) (by omega) (by rw [← HBn.out]; exact HGE.out))
          have HQ3 := Lib.hid (HQ.out.1.below hb3)
          clear hb3 hbw HORD
          go_wp2_with fail
          refine HLESS.out.mono ?_
          rintro e w5 ⟨v5, l5, rfl, ho5, hh5, hn5, hb5⟩
          rw [← HBn.out] at hn5
          have HB5 := Lib.hid (HB3.out.trans (hb5.mono HB3.out.size))
          have HQ5 := Lib.hid (HQ3.out.below hb5)
          have HO5 := Lib.hid (ho5.base (C := w.heap.size + 1) (by have h8 := HB3.out.size; have h9 : w.heap.size < w3.heap.size := (HQ3.out.1.lt _ rfl).2; omega))
          have HN5 := Lib.hid (And.intro hh5 hn5)
          obtain ⟨j, hj⟩ : ∃ j : Nat, j = m1 - 1 - i / 8 := ⟨_, rfl⟩
          have hji : (m1 : Int) - 1 - (i : Int) / 8 = (j : Int) := by have := HK0.out; omega
          have hjm : j < ql.length := by have := HK0.out; rw [HQ.out.2.1]; omega
          have hjm1 : (j : Int) < (m1 : Int) := by have := HQ.out.2.1; omega
          have hj0 : (0 : Int) ≤ (j : Int) := by omega
          obtain ⟨x, hx⟩ : ∃ x, x = ql[j]'hjm := ⟨_, rfl⟩
          have hcx := HQ5.out.cell j hjm
          have hfx := HQ5.out.free j
          rw [← hx] at hcx
          have hx256 : x < 256 := by rw [hx]; exact HQ5.out.2.2 _ (List.getElem_mem hjm)
          have HX := Lib.hid hx
          have HJ := Lib.hid hj
          clear ho5 hh5 hn5 hb5 HLESS hx hj
          have hqp := quo_put ql (A / 2 ^ (i + 1) / Bn) i m1 HQ.out.1.2.2 HQ.out.2.1 (by have := HK0.out; omega) HQ.out.2.2.1 (by rw [← HJ.out]; exact hjm)
          have HQP := Lib.hid hqp
          clear hqp
          go_wp2
          have hk8 : i % 8 < 8 := by omega
          have hxe : ql[m1 - 1 - i / 8]'(by rw [← HJ.out]; exact hjm) = x := by
            rw [HX.out]
            congr 1
            exact HJ.out.symm
          obtain ⟨hp1, hp2⟩ := HQP.out
          rw [hxe] at hp1 hp2
          rw [or8 x (i % 8) hx256 hk8 hp1]
          have hst := (HST.out.2.1 HGE.out)
          have hx2 : x + 2 ^ (i % 8) < 256 := (or_bit x (i % 8) hx256 hk8 hp1).2
          go_roundg i
          case measure => omega
          case rel =>
            refine ⟨rfl, by omega, ?_⟩
            have hne : ∀ v, v = v5 → ∀ g', v.ownBlock = some g' → g' ≠ w.heap.size := fun v hv g' hg => by
              subst hv
              have := (HO5.out.1.lt g' hg).1
              omega
            refine ⟨l5, ql.set j (x + 2 ^ (i % 8)), HO5.out.only1 (one_only' w5 w.heap.size j _) (hne _ rfl), HN5.out.1, ?_, HQ5.out.store j _ hx2, by rw [List.length_set]; exact HQ.out.2.1, ?_, HB5.out.setCell (p := ⟨w.heap.size, j, none⟩) (Nat.le_refl _) _⟩
            · rw [HN5.out.2, hst.1]
            · rw [hst.2, HJ.out]; exact hp2
        · have hs0 : ¬ 0 ≤ sg := by
            rw [HSG.out]
            unfold sgn
            split
            · omega
            · omega
          have hd : decide (0 ≤ sg) = false := decide_eq_false hs0
          have HGE := Lib.hid hge
          clear hge hs0
          go_wp2_with fail
          refine HORD.out.mono ?_
          rintro e w3 ⟨rfl, hb3⟩
          have HB3 := Lib.hid hb3
          clear hb3 HORD
          go_wp2
          have hst := (HST.out.2.2 (by have := HGE.out; omega))
          obtain ⟨h4, h5, h6, h7⟩ := HQ.out
          obtain ⟨h1, h2, h3⟩ := HL.out
          go_roundg i
          case measure => omega
          case rel =>
            refine ⟨rfl, by omega, ?_⟩
            refine ⟨ll, ql, h1.below HB3.out, h2, hst.1.symm, h4.below HB3.out, h5, ?_, h7.trans (HB3.out.mono h7.size)⟩
            rw [h6, hst.2, Nat.pow_succ, Nat.mul_comm (2 ^ i) 2, ← Nat.mul_assoc, Nat.mul_comm _ 2]
end Go.Proofs.YtndeolcamgnmdaaGreatDoor
