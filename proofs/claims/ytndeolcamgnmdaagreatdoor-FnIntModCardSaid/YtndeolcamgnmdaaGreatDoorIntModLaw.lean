/- The law's walk: what the floor leaves of two ints. -/
import Derived.Test.YtndeolcamgnmdaaGreatDoorImplMod
import Derived.Test.YtndeolcamgnmdaaGreatDoorModBaseE
import Derived.Test.YtndeolcamgnmdaaGreatDoorIntSignLaw
import Derived.Deep.RegionHeld3
import Derived.Deep.DrawnRows
import Derived.Deep.DeepCutAuto
import Derived.Lib.LaidU8
set_option linter.unusedVariables false
set_option linter.unusedSimpArgs false
set_option linter.unnecessarySimpa false
namespace Go.Proofs.YtndeolcamgnmdaaGreatDoor
open Go.RowKit
attribute [local go_sem ↓] Go.wp_at_zero Go.wp_at_succ
theorem whole_ofK (an : Bool) (a : Option Addr) (len cap : Nat) (zs : List Int) (w : World) (h : IsRow .u8 w a len cap zs) (K : Nat) (hK : K ≤ 1000) :
    ∃ nb ll, ll.length ≤ K ∧ (∀ x ∈ ll, x < 256) ∧ (∀ W', Below w.heap.size w W' → Calls Tryz.prog 4 #[.bool an, .slice a len cap, .int .i64 (K : Int)] W' (fun e w' => ∃ v u, e = .returned (.tuple #[v, u]) ∧ SInt w' W'.heap.size v nb ll ∧ IVal w' W'.heap.size u nb ll ∧ Below W'.heap.size W' w')) := by
  obtain ⟨hb, hlen⟩ := bsl_of_row h
  obtain ⟨l, hl⟩ : ∃ l, l = (zs.take len).map Int.toNat := ⟨_, rfl⟩
  rw [← hl] at hb hlen
  obtain ⟨m, hm⟩ : ∃ m, (len ≤ K ∧ m = len) ∨ (K < len ∧ m = K) := by
    by_cases h4 : len ≤ K
    · exact ⟨_, .inl ⟨h4, rfl⟩⟩
    · exact ⟨_, .inr ⟨by omega, rfl⟩⟩
  refine ⟨negOf an (l.take m), strip (l.take m), ?_, ?_, fun W' hbw => whole_at an a len cap K m l W' (hb.old hbw) hK hm⟩
  · refine Nat.le_trans (strip_le _) ?_
    rw [List.length_take]
    omega
  · intro x hx
    have := List.mem_of_mem_take (strip_mem _ _ hx)
    obtain ⟨_, _, _, _, _, hby, _⟩ := hb
    exact hby x this
theorem num_same {n1 n2 : Bool} {l1 l2 : List Nat} {n : Int} (h1 : intOf2 n1 l1 = n) (h2 : intOf2 n2 l2 = n) (a1 : l1.head? ≠ some 0) (a2 : l2.head? ≠ some 0) (b1 : ∀ x ∈ l1, x < 256) (b2 : ∀ x ∈ l2, x < 256) (c1 : n1 = true → l1 ≠ []) (c2 : n2 = true → l2 ≠ []) : n1 = n2 ∧ l1 = l2 := by
  have z1 := natOf_eq_zero a1
  have z2 := natOf_eq_zero a2
  have e : natOf l1 = natOf l2 := by unfold intOf2 at h1 h2; cases n1 <;> cases n2 <;> simp at h1 h2 <;> omega
  refine ⟨?_, natOf_unique b1 b2 a1 a2 e⟩
  cases n1 <;> cases n2
  · rfl
  · exfalso
    have h3 : natOf l2 ≠ 0 := fun h => c2 rfl (z2.1 h)
    unfold intOf2 at h1 h2; simp at h1 h2; omega
  · exfalso
    have h3 : natOf l1 ≠ 0 := fun h => c1 rfl (z1.1 h)
    unfold intOf2 at h1 h2; simp at h1 h2; omega
  · rfl
theorem same_of {w w' : World} {B B' : Nat} {v v' : Value} {n n' : Bool} {l l' : List Nat} {k : Int} (h : NumV w B v n l) (e : intOf2 n l = k) (h' : SInt w' B' v' n' l') (e' : intOf2 n' l' = k) : n = n' ∧ l = l' := by
  obtain ⟨_, _, _, _, hbs, _, hh, hn⟩ := h
  obtain ⟨_, _, ho, hh', hn'⟩ := h'
  obtain ⟨_, _, _, _, _, hb, _⟩ := hbs
  exact num_same e e' hh hh' hb ho.2.2 hn hn'
theorem flr_lt (xn yn : Bool) (A B : Nat) (hB : 0 < B) : (flr xn yn A B).natAbs < B := by
  have hl := Nat.mod_lt A hB
  by_cases h : xn = yn
  · subst h; rw [flr_same]; cases xn <;> simp <;> omega
  · have e : xn = !yn := by cases xn <;> cases yn <;> simp_all
    subst e
    by_cases h0 : A % B = 0
    · rw [flr_zero yn A B h0]; simpa using hB
    · rw [flr_apart yn A B h0]; cases yn <;> simp <;> omega
theorem NumV.old {w w' : World} {B : Nat} {v : Value} {neg : Bool} {l : List Nat} (h : NumV w B v neg l) (hb : Below w.heap.size w w') : NumV w' B v neg l := by
  obtain ⟨g, o, c, e, hbs, hr⟩ := h
  exact ⟨g, o, c, e, hbs.old hb, hr⟩
set_option maxRecDepth 20000 in
set_option maxHeartbeats 2000000 in
theorem is_same (B B' : Nat) (v x : Value) (neg : Bool) (l : List Nat) (w : World) (hv : NumV w B' v neg l) (hx : SInt w B x neg l) (hl : l.length ≤ 1000000) :
    Calls Tryz.prog 9 #[v, x] w fun e w' => e = .returned (.bool true) ∧ Below w.heap.size w w' := by
  obtain ⟨g, o, c, rfl, hbs, _, _, _⟩ := hv
  obtain ⟨vs, rfl, hob, _, _⟩ := hx
  obtain ⟨g2, c2, hvs, _, hg2, _, _⟩ := hob.form
  obtain ⟨m, hm⟩ : ∃ m, m = l.length := ⟨_, rfl⟩
  rw [← hm] at hvs hbs ⊢
  subst hvs
  have C0 : Hid (Below w.heap.size w ((w.alloc (.cells #[.int .i64 2, .bool neg, .slice (some ⟨g, o, none⟩) m c, .int .u64 0, .string ⟨#[]⟩, .slice none 0 0] 28)).alloc (.cells #[.bool neg, .slice (some ⟨g2, 0, none⟩) m c2] 24))) := ((Below.refl _ w).alloc (Nat.le_refl _) _).alloc (by simp) _
  have HO := Lib.hid (hob.below C0.out)
  have HBS := Lib.hid (hbs.old C0.out)
  have HM := Lib.hid hm
  have hb1 : ((m : Int) != (m : Int)) = false := by simp
  have hb2 : (neg != neg) = false := by simp
  have hmb : m ≤ 1000000 := by omega
  clear hbs hob hm hg2
  go_enter Tryz.func9, Tryz.ntmps9
  go_wp2_with fail
  obtain ⟨W0, hW0⟩ : ∃ W0, W0 = ((w.alloc (.cells #[.int .i64 2, .bool neg, .slice (some ⟨g, o, none⟩) m c, .int .u64 0, .string ⟨#[]⟩, .slice none 0 0] 28)).alloc (.cells #[.bool neg, .slice (some ⟨g2, 0, none⟩) m c2] 24)) := ⟨_, rfl⟩
  have K1 : Hid (Blk W0 w.heap.size 28 #[.int .i64 2, .bool neg, .slice (some ⟨g, o, none⟩) m c, .int .u64 0, .string ⟨#[]⟩, .slice none 0 0]) := by
    rw [hW0]; exact Blk.alloc (Blk.new w _ _) _
  have K2 : Hid (Blk W0 (w.heap.size + 1) 24 #[.bool neg, .slice (some ⟨g2, 0, none⟩) m c2]) := by
    rw [hW0]; exact Blk.new_at _ _ _ (by simp)
  rw [← hW0] at HO HBS C0 ⊢
  clear hW0
  go_loopw [44] (fun iv wr => ∃ i : Nat, i ≤ m ∧ iv = .int .i64 (i : Int) ∧ Hid (∃ q, wr = W0.drewN q)) (fun iv _ => m - (intOf iv).toNat)
  case atStart => exact ⟨0, Nat.zero_le _, rfl, 0, rfl⟩
  case round =>
    obtain ⟨i, hi, rfl, hw⟩ := hrel
    by_cases him : i < m
    · have hil : i < l.length := by rw [← HM.out]; exact him
      obtain ⟨y, hy⟩ : ∃ y, y = l[i]'hil := ⟨_, rfl⟩
      have hB := HO.out.bsl
      have hcw1 : wr.cell? ⟨g, o + i, none⟩ = some (.int .u8 (y : Int)) := by
        obtain ⟨q, rfl⟩ := hw.out
        obtain ⟨a', c', hv, _, _, _, _, h5⟩ := HBS.out
        injection hv with e1
        have := h5 _ e1.symm i hil
        rw [hy]
        simpa [Addr.add_lit] using this
      have hcw2 : wr.cell? ⟨g2, i, none⟩ = some (.int .u8 (y : Int)) := by
        obtain ⟨q, rfl⟩ := hw.out
        have := HO.out.cell i hil
        rw [← hy] at this
        exact this
      have k1 : Blk wr w.heap.size 28 #[.int .i64 2, .bool neg, .slice (some ⟨g, o, none⟩) m c, .int .u64 0, .string ⟨#[]⟩, .slice none 0 0] := by obtain ⟨q, rfl⟩ := hw.out; exact K1.out
      have k2 : Blk wr (w.heap.size + 1) 24 #[.bool neg, .slice (some ⟨g2, 0, none⟩) m c2] := by obtain ⟨q, rfl⟩ := hw.out; exact K2.out
      obtain ⟨a0, a1, a2, a3, a4, a5, _⟩ := blk6 k1
      obtain ⟨b0, b1, _⟩ := blk2 k2
      have him' : (i : Int) < (m : Int) := by omega
      have hyy : ((y : Int) != (y : Int)) = false := by simp
      clear hy hB k1 k2
      go_wp2_with fail
      go_quiet (fail)
      go_wp2
      go_roundw
      case rel => exact ⟨i + 1, by omega, by go_num, by obtain ⟨q, rfl⟩ := hw.out; exact ⟨q + _, World.drewN_drewN _ _ _⟩⟩
      case measure => simp [intOf]; omega
    · obtain rfl : i = m := by omega
      go_wp2
      go_ret
      refine ⟨rfl, ?_⟩
      obtain ⟨q, rfl⟩ := hw.out
      exact below_dn C0.out q
/-- Nothing is the zero value. -/
theorem is_zero (B' : Nat) (v : Value) (neg : Bool) (l : List Nat) (w : World) (hv : NumV w B' v neg l) (h0 : intOf2 neg l = 0) :
    Calls Tryz.prog 9 #[v, .agg #[.bool false, .slice none 0 0]] w fun e w' => e = .returned (.bool true) ∧ Below w.heap.size w w' := by
  obtain ⟨g, o, c, rfl, hbs, _, hh, hn⟩ := hv
  have hz : natOf l = 0 := by unfold intOf2 at h0; cases neg <;> simp at h0 <;> omega
  have hl := (natOf_eq_zero hh).1 hz
  subst hl
  have hneg : neg = false := by cases neg with | false => rfl | true => exact absurd rfl (hn rfl)
  subst hneg
  rw [List.length_nil]
  have C0 : Hid (Below w.heap.size w ((w.alloc (.cells #[.int .i64 2, .bool false, .slice (some ⟨g, o, none⟩) 0 c, .int .u64 0, .string ⟨#[]⟩, .slice none 0 0] 28)).alloc (.cells #[.bool false, .slice none 0 0] 24))) := ((Below.refl _ w).alloc (Nat.le_refl _) _).alloc (by simp) _
  clear hbs hh hn h0 hz
  go_enter Tryz.func9, Tryz.ntmps9
  go_wp2_with fail
  refine wp_loop_rounds 1 ?_
  rw [rounds_succ]
  go_wp2
  go_ret
  exact ⟨rfl, C0.out⟩
theorem pair1 {w1 w2 : World} {t1 t2 : TypeId} {cs1 cs2 : Array Value} (hb2 : Below (w1.heap.size + 1 + 1) ((w1.alloc (.cells cs1 t1)).alloc (.cells cs2 t2)) w2) :
    Blk w2 w1.heap.size t1 cs1 ∧ Blk w2 (w1.heap.size + 1) t2 cs2 ∧ w1.heap.size + 1 + 1 ≤ w2.heap.size ∧ Below w1.heap.size w1 w2 :=
  ⟨((Blk.new w1 t1 cs1).alloc (.cells cs2 t2)).below hb2 (by omega), (Blk.new_at (w1.alloc (.cells cs1 t1)) t2 cs2 (n := w1.heap.size + 1) (by simp)).below hb2 (by omega), by have := hb2.size; simpa using this, (((Below.refl _ w1).alloc (Nat.le_refl _) _).alloc (by simp) _).trans (hb2.mono (by omega))⟩
/-- What stands ahead of the division: the four boxes, and what they hold. -/
structure ModSt (w : World) (b9 b10 b11 b12 : Nat) (nb nb2 : Bool) (ll ll2 : List Nat) (g r c g2 c2 g3 r3 c3 g4 c4 : Nat) (wx : World) : Prop where
  k9 : Blk wx b9 24 #[.bool nb, .slice (some ⟨g, 0, none⟩) r c]
  k10 : Blk wx b10 28 #[.int .i64 2, .bool nb, .slice (some ⟨g2, 0, none⟩) r c2, .int .u64 0, .string ⟨#[]⟩, .slice none 0 0]
  k11 : Blk wx b11 24 #[.bool nb2, .slice (some ⟨g3, 0, none⟩) r3 c3]
  k12 : Blk wx b12 28 #[.int .i64 2, .bool nb2, .slice (some ⟨g4, 0, none⟩) r3 c4, .int .u64 0, .string ⟨#[]⟩, .slice none 0 0]
  s1 : SInt wx 0 (.agg #[.bool nb, .slice (some ⟨g, 0, none⟩) r c]) nb ll
  i1 : IVal wx 0 (.agg #[.int .i64 2, .bool nb, .slice (some ⟨g2, 0, none⟩) r c2, .int .u64 0, .string ⟨#[]⟩, .slice none 0 0]) nb ll
  s2 : SInt wx 0 (.agg #[.bool nb2, .slice (some ⟨g3, 0, none⟩) r3 c3]) nb2 ll2
  i2 : IVal wx 0 (.agg #[.int .i64 2, .bool nb2, .slice (some ⟨g4, 0, none⟩) r3 c4, .int .u64 0, .string ⟨#[]⟩, .slice none 0 0]) nb2 ll2
  l1 : ll.length ≤ 100
  l2 : ll2.length ≤ 100
  nz : intOf2 nb2 ll2 ≠ 0
  bw : Below w.heap.size w wx
theorem IVal.lit6 {w : World} {B : Nat} {v : Value} {neg : Bool} {l : List Nat} (h : IVal w B v neg l) : ∃ g c, v = .agg #[.int .i64 2, .bool neg, .slice (some ⟨g, 0, none⟩) l.length c, .int .u64 0, .string ⟨#[]⟩, .slice none 0 0] := by
  obtain ⟨vs, rfl, ho, _, _⟩ := h
  obtain ⟨g, c, hvs, _⟩ := ho.form
  exact ⟨g, c, by rw [hvs]⟩
theorem IVal.only {w w' : World} {B : Nat} {S : Nat → Prop} {v : Value} {neg : Bool} {l : List Nat} (h : IVal w B v neg l) (k : Only S w w') (hs : ∀ g, B ≤ g → ¬ S g) : IVal w' B v neg l := by
  obtain ⟨vs, hv, ho, h2⟩ := h
  exact ⟨vs, hv, ho.only k hs, h2⟩
theorem intOf2_sg (n : Bool) (l : List Nat) : intOf2 n l = sgI n (natOf l) := by cases n <;> simp [intOf2, sgI]
theorem numv_lit {w : World} {B : Nat} {v : Value} {neg : Bool} {l : List Nat} (h : NumV w B v neg l) : ∃ g o c, v = .agg #[.int .i64 2, .bool neg, .slice (some ⟨g, o, none⟩) l.length c, .int .u64 0, .string ⟨#[]⟩, .slice none 0 0] := by
  obtain ⟨g, o, c, e, _⟩ := h
  exact ⟨g, o, c, e⟩
theorem NumV.len {w : World} {B : Nat} {v : Value} {neg : Bool} {l : List Nat} {K : Nat} (h : NumV w B v neg l) (hk : (intOf2 neg l).natAbs < 256 ^ K) : l.length ≤ K := by
  obtain ⟨_, _, _, _, _, _, hh, _⟩ := h
  exact natOf_lenle hh K (by have e : (intOf2 neg l).natAbs = natOf l := by unfold intOf2; cases neg <;> simp
                             omega)
/-- The answer against what is wanted. -/
theorem is_any (B' : Nat) (v x : Value) (neg : Bool) (l : List Nat) (n : Int) (w : World) (hv : NumV w B' v neg l) (hn : intOf2 neg l = n) (hx : SInt0 w 0 x n) (hl : l.length ≤ 1000000) :
    Calls Tryz.prog 9 #[v, x] w fun e w' => e = .returned (.bool true) ∧ Below w.heap.size w w' := by
  rcases hx with ⟨neg0, l0, hs, h0⟩ | ⟨rfl, h0⟩
  · obtain ⟨rfl, rfl⟩ := same_of hv hn hs h0
    exact is_same 0 B' v x neg l w hv hs hl
  · exact is_zero B' v neg l w hv (hn.trans h0)
theorem SInt0.below {w w' : World} {B : Nat} {v : Value} {n : Int} (h : SInt0 w B v n) (hb : Below w.heap.size w w') : SInt0 w' B v n := by
  rcases h with ⟨neg, l, hs, h0⟩ | h
  · exact .inl ⟨neg, l, hs.below hb, h0⟩
  · exact .inr h
theorem SInt0.zero {w : World} {B : Nat} {v : Value} {n : Int} (h : SInt0 w B v n) : SInt0 w 0 v n := by
  rcases h with ⟨neg, l, hs, h0⟩ | h
  · exact .inl ⟨neg, l, hs.base (Nat.zero_le _), h0⟩
  · exact .inr h
set_option maxRecDepth 20000 in
set_option maxHeartbeats 4000000 in
theorem int_mod (an : Bool) (a : Option Addr) (len cap : Nat) (zs : List Int) (bn : Bool) (b : Option Addr) (len2 cap2 : Nat) (zs2 : List Int) (w : World) (h : IsRow .u8 w a len cap zs) (h2 : IsRow .u8 w b len2 cap2 zs2) (hT : Thr w) :
    Calls Tryz.prog 3 #[.bool an, .slice a len cap, .bool bn, .slice b len2 cap2] w fun e w' => e = .returned (.bool true) ∧ Below w.heap.size w w' := by
  by_cases hs : len ≤ 2147483647
  · by_cases hs2 : len2 ≤ 2147483647
    · have hd : decide ((2147483647 : Int) < (len : Int)) = false := by simp; omega
      have hd2 : decide ((2147483647 : Int) < (len2 : Int)) = false := by simp; omega
      obtain ⟨nb, ll, hl, _, hwa⟩ := whole_ofK an a len cap zs w h 100 (by omega)
      obtain ⟨nb2, ll2, hl2, _, hwb⟩ := whole_ofK bn b len2 cap2 zs2 w h2 100 (by omega)
      have HL := Lib.hid hl
      have HL2 := Lib.hid hl2
      have HWA := Lib.hid hwa
      have HWB := Lib.hid hwb
      have HT := Lib.hid hT
      clear hl hl2 hwa hwb h h2 hs hs2 hT
      go_enter Tryz.func3, Tryz.ntmps3
      go_wp2_with fail
      refine (HWA.out _ (Below.refl _ _)).mono ?_
      rintro e w1 ⟨v, u, rfl, hsi, hiv, hb1⟩
      have HSI := Lib.hid hsi
      have HIV := Lib.hid hiv
      have HB1 := Lib.hid hb1
      obtain ⟨g, c, hv⟩ := hsi.lit2
      obtain ⟨g2, c2, hu⟩ := hiv.lit6
      obtain ⟨r, hr⟩ : ∃ r, r = ll.length := ⟨_, rfl⟩
      rw [← hr] at hv hu
      subst hv hu
      clear hsi hiv hb1 hr
      go_wp2_with fail
      refine (HWB.out _ (HB1.out.trans ((((Below.refl _ w1).alloc (Nat.le_refl _) _).alloc (by simp) _).mono HB1.out.size))).mono ?_
      rintro e w2 ⟨v2, u2, rfl, hsi2, hiv2, hb2⟩
      have HSI2 := Lib.hid hsi2
      have HIV2 := Lib.hid hiv2
      have HB2 := Lib.hid (show Below (w1.heap.size + 1 + 1) _ w2 from hb2.mono (by simp))
      obtain ⟨g3, c3, hv2⟩ := hsi2.lit2
      obtain ⟨g4, c4, hu2⟩ := hiv2.lit6
      obtain ⟨r2, hr2⟩ : ∃ r, r = ll2.length := ⟨_, rfl⟩
      rw [← hr2] at hv2 hu2
      subst hv2 hu2
      have HR2 := Lib.hid hr2
      have D0 := Lib.hid (Below.refl (w2.heap.size + 1 + 1) ((w2.alloc (.cells #[.bool nb2, .slice (some ⟨g3, 0, none⟩) r2 c3] 24)).alloc (.cells #[.int .i64 2, .bool nb2, .slice (some ⟨g4, 0, none⟩) r2 c4, .int .u64 0, .string ⟨#[]⟩, .slice none 0 0] 28)))
      have hz2 := (pair1 HB2.out).2.2.1
      have hzz := HB1.out.size
      clear hsi2 hiv2 hb2 hr2
      go_wp2_with fail
      refine (zero_any nb2 (some ⟨g3, 0, none⟩) r2 c3 _).mono ?_
      rintro e w3 ⟨rfl, hb3⟩
      have D3 := Lib.hid (D0.out.trans (hb3.mono (by simp)))
      have C3 : Hid (Below w1.heap.size w1 w3) := (pair1 HB2.out).2.2.2.trans ((pair1 D3.out).2.2.2.mono (by omega))
      have hz3 := (pair1 D3.out).2.2.1
      have K9 := Lib.hid ((pair1 HB2.out).1.below (pair1 D3.out).2.2.2 (by omega))
      have K10 := Lib.hid ((pair1 HB2.out).2.1.below (pair1 D3.out).2.2.2 (by omega))
      have K11 := Lib.hid (pair1 D3.out).1
      have K12 := Lib.hid (pair1 D3.out).2.1
      clear hb3
      go_upto_if 36 with fail
      go_cut [] from 36 to 40 (fun wx => ∃ (wz : World) (nb2 : Bool) (ll2 : List Nat) (g3 r3 c3 g4 c4 : Nat), wz = wx ∧ Hid (ModSt w w1.heap.size (w1.heap.size + 1) w2.heap.size (w2.heap.size + 1) nb nb2 ll ll2 g r c g2 c2 g3 r3 c3 g4 c4 wx))
      case first =>
        by_cases hr0 : r2 = 0
        · subst hr0
          rw [show ((((0 : Nat) : Int)) == 0) = true from rfl]
          obtain ⟨x11a, x11b, f11a, f11b⟩ := blk2 K11.out
          go_wp2_with fail
          refine (small_any 7 (by decide) _).mono ?_
          rintro e w4 ⟨v4, n4, l4, rfl, hs4, hb4', hv4, hb4⟩
          have HS4 := Lib.hid hs4
          have HV4 := Lib.hid (And.intro hv4 hb4')
          have HB4 := Lib.hid hb4
          clear hs4 hv4 hb4 hb4'
          go_wp2_with fail
          refine (small_any 7 (by decide) _).mono ?_
          rintro e w5 ⟨v5, n5, l5, rfl, hs5, hb5', hv5, hb5⟩
          have HS5 := Lib.hid hs5
          have HV5 := Lib.hid (And.intro hv5 hb5')
          have HB5 := Lib.hid hb5
          obtain ⟨g5', c5', hv5l⟩ := hs5.lit2
          obtain ⟨r5, hr5⟩ : ∃ r, r = l5.length := ⟨_, rfl⟩
          rw [← hr5] at hv5l
          subst hv5l
          have hl5 : l5.length ≤ 100 := by
            obtain ⟨_, _, ho, hh, _⟩ := hs5
            have h1 : natOf l5 < 256 ^ 1 := by unfold intOf2 at hv5; cases n5 <;> simp at hv5 <;> omega
            have := natOf_lenle hh 1 h1
            omega
          have HL5 := Lib.hid hl5
          clear hs5 hv5 hb5 hb5' hr5
          go_wp2_with fail
          refine (told_any _ _ n5 l5 _ HS5.out (by have := HL5.out; omega)).mono ?_
          rintro e w6 ⟨u6, rfl, hi6, hb6⟩
          have HI6 := Lib.hid hi6
          have B36 := Lib.hid (HB4.out.trans ((HB5.out.trans (hb6.mono HB5.out.size)).mono HB4.out.size))
          have hz4 := HB4.out.size
          have hz5 := HB5.out.size
          have hz6 := hb6.size
          have heq := num_same HV4.out.1 HV5.out.1 (by obtain ⟨_, _, _, h, _⟩ := HS4.out; exact h) (by obtain ⟨_, _, _, h, _⟩ := HS5.out; exact h) HV4.out.2 HV5.out.2 (by obtain ⟨_, _, _, _, h⟩ := HS4.out; exact h) (by obtain ⟨_, _, _, _, h⟩ := HS5.out; exact h)
          obtain ⟨g7, c7, hv4l⟩ := HS4.out.lit2
          obtain ⟨g8, c8, hu6⟩ := hi6.lit6
          obtain ⟨r7, hr7⟩ : ∃ r, r = l4.length := ⟨_, rfl⟩
          have HEQ := Lib.hid heq
          rw [← heq.2, ← hr7, ← heq.1] at hu6
          rw [← hr7] at hv4l
          subst hv4l hu6
          have hk11 := K11.out.below B36.out (by omega)
          have hk12 := K12.out.below B36.out (by omega)
          obtain ⟨y11a, y11b, e11a, e11b⟩ := blk2 hk11
          obtain ⟨y0, y1, y2, y3, y4, y5, z0, z1, z2, z3, z4, z5⟩ := blk6 hk12
          have HK11 := Lib.hid hk11
          have HK12 := Lib.hid hk12
          have HS6 : Hid (SInt w6 w3.heap.size (.agg #[.bool n4, .slice (some ⟨g7, 0, none⟩) r7 c7]) n4 l4) := HS4.out.below (HB5.out.trans (hb6.mono HB5.out.size))
          clear hi6 hb6 hk11 hk12 heq hr7 x11a x11b f11a f11b
          go_wp2_with fail
          go_meet
          have hO1 := two_set w6 w2.heap.size (.bool n4) (.slice (some ⟨g7, 0, none⟩) r7 c7)
          have hO2 := six_set ((w6.setCell ⟨w2.heap.size, 0, none⟩ (.bool n4)).setCell ⟨w2.heap.size, 1, none⟩ (.slice (some ⟨g7, 0, none⟩) r7 c7)) (w2.heap.size + 1) (.int .i64 2) (.bool n4) (.slice (some ⟨g8, 0, none⟩) r7 c8) (.int .u64 0) (.string ⟨#[]⟩) (.slice none 0 0)
          have hb36 := B36.out
          have hk9 := ((K9.out.below hb36 (by omega)).only hO1 (by omega)).only hO2 (by omega)
          have hk10 := ((K10.out.below hb36 (by omega)).only hO1 (by omega)).only hO2 (by omega)
          have hk11 : Blk _ w2.heap.size 24 #[.bool n4, .slice (some ⟨g7, 0, none⟩) r7 c7] := (show Blk ((w6.setCell ⟨w2.heap.size, 0, none⟩ (.bool n4)).setCell ⟨w2.heap.size, 1, none⟩ (.slice (some ⟨g7, 0, none⟩) r7 c7)) w2.heap.size 24 #[.bool n4, .slice (some ⟨g7, 0, none⟩) r7 c7] by simpa using (HK11.out.put 0 (.bool n4)).put 1 (.slice (some ⟨g7, 0, none⟩) r7 c7)).only hO2 (by omega)
          have hk12a := HK12.out.only hO1 (by omega)
          have hk12 := (((((hk12a.put 0 (.int .i64 2)).put 1 (.bool n4)).put 2 (.slice (some ⟨g8, 0, none⟩) r7 c8)).put 3 (.int .u64 0)).put 4 (.string ⟨#[]⟩)).put 5 (.slice none 0 0)
          simp only [List.setIfInBounds_toArray, List.set_cons_zero, List.set_cons_succ] at hk12
          have hbw : Below (w2.heap.size) w2 _ := ((pair1 D3.out).2.2.2.trans (hb36.mono (by omega))).trans (((hO1.to_below (B := w2.heap.size) (by omega) (fun k _ e => by omega))).trans (hO2.to_below (B := w2.heap.size) (by simp; omega) (fun k _ e => by omega)))
          have hbw1 : Below w1.heap.size w1 _ := (pair1 HB2.out).2.2.2.trans (hbw.mono (by omega))
          refine ⟨_, n4, l4, g7, r7, c7, g8, c8, rfl, hk9, hk10, hk11, hk12, (HSI.out.below hbw1).base (Nat.zero_le _), (HIV.out.below hbw1).base (Nat.zero_le _), ((HS6.out.only hO1 (fun k hk e => by omega)).only hO2 (fun k hk e => by omega)).base (Nat.zero_le _), ?_, HL.out, ?_, ?_, HB1.out.trans (hbw1.mono HB1.out.size)⟩
          · have h := (HI6.out.only hO1 (fun k hk e => by omega)).only hO2 (fun k hk e => by omega)
            rw [← HEQ.out.1, ← HEQ.out.2] at h
            exact h.base (Nat.zero_le _)
          · rw [HEQ.out.2]; exact HL5.out
          · rw [HV4.out.1]; decide
        · have hrb : ((r2 : Int) == 0) = false := by rw [beq_eq_false_iff_ne]; omega
          rw [hrb]
          have hnz : intOf2 nb2 ll2 ≠ 0 := fun e => by
            obtain ⟨_, _, ho, hh, _⟩ := HSI2.out
            have h1 : natOf ll2 = 0 := by unfold intOf2 at e; cases nb2 <;> simp at e <;> omega
            have h2 := (natOf_eq_zero hh).1 h1
            have h3 := HR2.out
            rw [h2] at h3
            exact hr0 h3
          go_wp2_with fail
          go_meet
          exact ⟨_, nb2, ll2, g3, r2, c3, g4, c4, rfl, K9.out, K10.out, K11.out, K12.out, (HSI.out.below C3.out).base (Nat.zero_le _), (HIV.out.below C3.out).base (Nat.zero_le _), (HSI2.out.below (pair1 D3.out).2.2.2).base (Nat.zero_le _), (HIV2.out.below (pair1 D3.out).2.2.2).base (Nat.zero_le _), HL.out, HL2.out, hnz, HB1.out.trans (C3.out.mono HB1.out.size)⟩
      case rest =>
        obtain ⟨wz, nb3, ll3, g5, r3, c5, g6, c6, rfl, hst⟩ := hcut
        have C0 := hst.out.bw
        have hb10 : w1.heap.size + 1 < wz.heap.size := hst.out.k10.lt
        have hb12 : w2.heap.size + 1 < wz.heap.size := hst.out.k12.lt
        obtain ⟨x0, x1, _, _⟩ := blk2 hst.out.k9
        obtain ⟨y0, y1, _, _⟩ := blk2 hst.out.k11
        have hpos : 0 < natOf ll3 := by
          rcases Nat.eq_zero_or_pos (natOf ll3) with h | h
          · exfalso; exact hst.out.nz (by unfold intOf2; rw [h]; cases nb3 <;> rfl)
          · exact h
        have HFL := Lib.hid (spec_floor 0 0 _ _ nb nb3 ll ll3 wz hst.out.s1 hst.out.s2 (by have := hst.out.l1; omega) (by have := hst.out.l2; omega) hpos)
        have HPOS := Lib.hid hpos
        have HC0 := Lib.hid C0
        clear hpos C0 K9 K10 K11 K12 D0 D3 C3 HSI HIV HSI2 HIV2 HWA HWB HB2
        go_wp2_with fail
        refine HFL.out.mono ?_
        rintro e w8 ⟨b1, a1, m1, c1, u2, rfl, hs0, hb8⟩
        have HB8 := Lib.hid hb8
        have hz8 := hb8.size
        obtain ⟨b9, s9, hu2⟩ : ∃ b9 s9, u2 = .agg #[.bool b9, s9] ∧ ∃ a9 m9 c9, s9 = .slice a9 m9 c9 := by
          rcases hs0 with ⟨neg, l, hs, _⟩ | ⟨hs, _⟩
          · obtain ⟨g9, c9, e⟩ := hs.lit2
            exact ⟨neg, _, e, _, _, _, rfl⟩
          · exact ⟨false, _, hs, _, _, _, rfl⟩
        obtain ⟨rfl, a9, m9, c9, rfl⟩ := hu2
        have HS0 := Lib.hid hs0
        have E0 := Lib.hid (Below.refl (w8.heap.size + 1 + 1) ((w8.alloc (.cells #[.bool b1, .slice a1 m1 c1] 24)).alloc (.cells #[.bool b9, .slice a9 m9 c9] 24)))
        have K10 := Lib.hid (hst.out.k10.below hb8 hb10)
        have K12 := Lib.hid (hst.out.k12.below hb8 hb12)
        clear hs0 hb8 HFL x0 x1 y0 y1
        go_wp2_with fail
        have HEQ : Hid (imod (intOf2 nb ll) (intOf2 nb3 ll3) = flr nb nb3 (natOf ll) (natOf ll3)) := by
          unfold Hid
          rw [intOf2_sg, intOf2_sg]
          exact flr_imod nb nb3 _ _ HPOS.out
        have HLT : Hid ((flr nb nb3 (natOf ll) (natOf ll3)).natAbs < 256 ^ 100) := by
          unfold Hid
          have h1 := flr_lt nb nb3 (natOf ll) (natOf ll3) HPOS.out
          have h2 : natOf ll3 < 256 ^ ll3.length := natOf_lt ll3 (by obtain ⟨_, _, ho, _⟩ := hst.out.s2; exact ho.2.2)
          have h3 : 256 ^ ll3.length ≤ 256 ^ 100 := Nat.pow_le_pow_right (by omega) hst.out.l2
          exact Nat.lt_trans h1 (Nat.lt_of_lt_of_le h2 h3)
        have BZ : Hid (∀ X, Below (w8.heap.size + 1 + 1) ((w8.alloc (.cells #[.bool b1, .slice a1 m1 c1] 24)).alloc (.cells #[.bool b9, .slice a9 m9 c9] 24)) X → Below w8.heap.size w8 X) := fun X hX => (pair1 hX).2.2.2
        have CL : Hid (∀ X, Below (w8.heap.size + 1 + 1) ((w8.alloc (.cells #[.bool b1, .slice a1 m1 c1] 24)).alloc (.cells #[.bool b9, .slice a9 m9 c9] 24)) X → (X.cell? ⟨w1.heap.size + 1, 0, none⟩ = some (.int .i64 2) ∧ X.cell? ⟨w1.heap.size + 1, 1, none⟩ = some (.bool nb) ∧ X.cell? ⟨w1.heap.size + 1, 2, none⟩ = some (.slice (some ⟨g2, 0, none⟩) r c2) ∧ X.cell? ⟨w1.heap.size + 1, 3, none⟩ = some (.int .u64 0) ∧ X.cell? ⟨w1.heap.size + 1, 4, none⟩ = some (.string ⟨#[]⟩) ∧ X.cell? ⟨w1.heap.size + 1, 5, none⟩ = some (.slice none 0 0) ∧
            X.cell? ⟨w2.heap.size + 1, 0, none⟩ = some (.int .i64 2) ∧ X.cell? ⟨w2.heap.size + 1, 1, none⟩ = some (.bool nb3) ∧ X.cell? ⟨w2.heap.size + 1, 2, none⟩ = some (.slice (some ⟨g6, 0, none⟩) r3 c6) ∧ X.cell? ⟨w2.heap.size + 1, 3, none⟩ = some (.int .u64 0) ∧ X.cell? ⟨w2.heap.size + 1, 4, none⟩ = some (.string ⟨#[]⟩) ∧ X.cell? ⟨w2.heap.size + 1, 5, none⟩ = some (.slice none 0 0) ∧
            X.cell? ⟨w8.heap.size + 1, 0, none⟩ = some (.bool b9) ∧ X.cell? ⟨w8.heap.size + 1, 1, none⟩ = some (.slice a9 m9 c9))) := fun X hX => by
          obtain ⟨e0, e1, e2, e3, e4, e5, _⟩ := blk6 (K10.out.below (pair1 hX).2.2.2 (by omega))
          obtain ⟨f0, f1, f2, f3, f4, f5, _⟩ := blk6 (K12.out.below (pair1 hX).2.2.2 (by omega))
          obtain ⟨h0, h1, _⟩ := blk2 (pair1 hX).2.1
          exact ⟨e0, e1, e2, e3, e4, e5, f0, f1, f2, f3, f4, f5, h0, h1⟩
        have E1 := Lib.hid (E0.out.drew)
        go_region_held3 (fun X => X.cell? ⟨w1.heap.size + 1, 0, none⟩ = some (.int .i64 2) ∧ X.cell? ⟨w1.heap.size + 1, 1, none⟩ = some (.bool nb) ∧ X.cell? ⟨w1.heap.size + 1, 2, none⟩ = some (.slice (some ⟨g2, 0, none⟩) r c2) ∧ X.cell? ⟨w1.heap.size + 1, 3, none⟩ = some (.int .u64 0) ∧ X.cell? ⟨w1.heap.size + 1, 4, none⟩ = some (.string ⟨#[]⟩) ∧ X.cell? ⟨w1.heap.size + 1, 5, none⟩ = some (.slice none 0 0) ∧
            X.cell? ⟨w2.heap.size + 1, 0, none⟩ = some (.int .i64 2) ∧ X.cell? ⟨w2.heap.size + 1, 1, none⟩ = some (.bool nb3) ∧ X.cell? ⟨w2.heap.size + 1, 2, none⟩ = some (.slice (some ⟨g6, 0, none⟩) r3 c6) ∧ X.cell? ⟨w2.heap.size + 1, 3, none⟩ = some (.int .u64 0) ∧ X.cell? ⟨w2.heap.size + 1, 4, none⟩ = some (.string ⟨#[]⟩) ∧ X.cell? ⟨w2.heap.size + 1, 5, none⟩ = some (.slice none 0 0) ∧
            X.cell? ⟨w8.heap.size + 1, 0, none⟩ = some (.bool b9) ∧ X.cell? ⟨w8.heap.size + 1, 1, none⟩ = some (.slice a9 m9 c9))
          (first | (with_reducible exact CL.out _ E3.out) | (with_reducible exact CL.out _ E2.out) | (with_reducible exact CL.out _ E1.out) | go_keep)
          (first
          | (go_at_call 10; refine (impl_mod 0 0 _ _ nb nb3 ll ll3 _ (hst.out.i1.below (HB8.out.trans ((BZ.out _ E1.out).mono hz8))) (hst.out.i2.below (HB8.out.trans ((BZ.out _ E1.out).mono hz8))) hst.out.l1 hst.out.l2 hst.out.nz (HT.out.below (HC0.out.trans ((HB8.out.trans ((BZ.out _ E1.out).mono hz8)).mono HC0.out.size)) HT.out.lt)).mono ?_; rintro e w11 ⟨v11, neg, l, rfl, hnv, hval, hb11⟩; have HNV := Lib.hid hnv; have HVAL := Lib.hid (hval.trans HEQ.out); have E2 := Lib.hid (E1.out.trans (hb11.mono (by simp))); obtain ⟨g11, o11, c11, hv11⟩ := numv_lit hnv; obtain ⟨q11, hq11⟩ : ∃ q, q = l.length := ⟨_, rfl⟩; rw [← hq11] at hv11; subst hv11; clear hnv hval hb11 hq11)
          | (go_at_call 9; refine (is_any _ _ _ neg l _ _ HNV.out HVAL.out (HS0.out.zero.below (BZ.out _ E2.out)) (Nat.le_trans (NumV.len HNV.out (by rw [HVAL.out]; exact HLT.out)) (by omega))).mono ?_; rintro e w12 ⟨rfl, hb12⟩; have E3 := Lib.hid (E2.out.trans (hb12.mono (pair1 E2.out).2.2.1)); clear hb12))
        all_goals
          go_wp2
          go_ret
          exact ⟨rfl, HC0.out.trans ((HB8.out.trans ((BZ.out _ E3.out).mono hz8)).mono HC0.out.size)⟩
    · have hd : decide ((2147483647 : Int) < (len : Int)) = false := by simp; omega
      have hd2 : decide ((2147483647 : Int) < (len2 : Int)) = true := by simp; omega
      go_enter Tryz.func3, Tryz.ntmps3
      go_wp2
      go_ret
      exact ⟨rfl, Below.refl _ _⟩
  · have hd : decide ((2147483647 : Int) < (len : Int)) = true := by simp; omega
    go_enter Tryz.func3, Tryz.ntmps3
    go_wp2
    go_ret
    exact ⟨rfl, Below.refl _ _⟩
theorem thr_of_reads {W : World} (h : Lib.VarReads Tryz.prog W "given.example/pub-larkspur/pub/bigall.divRecursiveThreshold" (.lit (.int .i64 40))) : Thr W := by
  obtain ⟨g, t, cs, fuel, p, hg, hty, hvar, hd⟩ := h
  obtain rfl := Option.some.inj ((show Tryz.prog.globalNamed "given.example/pub-larkspur/pub/bigall.divRecursiveThreshold" = some 0 by kernel_rfl).symm.trans hg)
  obtain rfl := Option.some.inj ((show (Tryz.prog.globals[0]?).map (·.type) = some 3 by kernel_rfl).symm.trans hty)
  obtain ⟨n, h1, h2, _⟩ := DataW.trod_int Tryz.underlying3 hd
  simp only [Prod.mk.injEq, DataW.lit.injEq, Lit.int.injEq, true_and] at h2
  have hc := World.var?_cell hg hvar 0
  unfold Thr
  rw [hc, ← Array.getElem?_toList, h1, ← h2.1]
  rfl
end Go.Proofs.YtndeolcamgnmdaaGreatDoor
