/- Joined texts: SpecAdd, IntSign, DivPlain. -/
import Derived.Test.YtndeolcamgnmdaaGreatDoorModBaseD
import Derived.Test.YtndeolcamgnmdaaGreatDoorModBaseB
set_option linter.unusedVariables false
set_option linter.unusedSimpArgs false
set_option linter.unnecessarySimpa false
namespace Go.Proofs.YtndeolcamgnmdaaGreatDoor
open Go.RowKit
theorem sum_step (A B i carry o s : Nat) (h : o + 256 ^ i * carry = A % 256 ^ i + B % 256 ^ i) (hs : s = dig A i + dig B i + carry) :
    o + (s % 256) * 256 ^ i + 256 ^ (i + 1) * (s / 256) = A % 256 ^ (i + 1) + B % 256 ^ (i + 1) := by
  rw [Nat.mod_pow_succ, Nat.mod_pow_succ, Nat.pow_succ]
  unfold dig at hs
  generalize 256 ^ i = P at *
  have e1 : P * s = P * 256 * (s / 256) + (s % 256) * P := by
    rw [Nat.mul_assoc, Nat.mul_comm (s % 256) P, ← Nat.mul_add, Nat.div_add_mod]
  have e2 : P * s = P * (A / P % 256) + P * (B / P % 256) + P * carry := by rw [hs, Nat.mul_add, Nat.mul_add]
  omega
theorem less_step (A B i borrow o d b : Nat) (h : o + B % 256 ^ i = A % 256 ^ i + 256 ^ i * borrow) (hd : d + dig B i + borrow = dig A i + 256 * b) :
    o + d * 256 ^ i + B % 256 ^ (i + 1) = A % 256 ^ (i + 1) + 256 ^ (i + 1) * b := by
  rw [Nat.mod_pow_succ, Nat.mod_pow_succ, Nat.pow_succ]
  unfold dig at hd
  generalize 256 ^ i = P at *
  have e1 : P * (d + B / P % 256 + borrow) = P * (A / P % 256 + 256 * b) := by rw [hd]
  rw [Nat.mul_add, Nat.mul_add, Nat.mul_add, ← Nat.mul_assoc P 256] at e1
  rw [Nat.mul_comm d P]
  omega
theorem bytes_made (n : Nat) (hn : n ≤ 1000000) (w : World) :
    ∃ W1, (Instr.makeSlice 22 (.int .i64 (n : Int)) (.int .i64 (n : Int))).run Tryz.prog w = .ok (.slice (some ⟨w.heap.size, 0, none⟩) n n) W1 ∧ OB W1 w.heap.size (.slice (some ⟨w.heap.size, 0, none⟩) n n) (List.replicate n 0) ∧ Below w.heap.size w W1 := by
  obtain ⟨i0, hi, hz0, hz1, hz2⟩ := info_parts Tryz.infoByte
  have h := run_make (P := Tryz.prog) w 22 5 i0 _ Tryz.underlying22 hi hz0 .i64 .i64 (n : Int) (n : Int) (by omega) (by omega) (by rw [hz2]; omega) (by omega)
  have e : madeCells (Value.int .u8 0).cells ((n : Int).toNat * i0.size) = madeCells #[.int .u8 0] n := by rw [hz1]; simp [Value.cells]
  have e1 : ((n : Int).toNat) = n := by omega
  rw [e, e1] at h
  refine ⟨_, h, ⟨⟨by simp, .inr ⟨w.heap.size, n, _, by simp, Nat.le_refl _, heap_alloc_new w _, by simp, by unfold maxLen; omega, by simp [size_madeCells], ?_⟩⟩, by simp, ?_⟩, (Below.refl _ w).alloc (Nat.le_refl _) _⟩
  · rw [toList_madeCells_one]
    simp [bcells, List.take_replicate]
  · intro x hx
    have := List.eq_of_mem_replicate hx
    omega
theorem natOf_zeros (n : Nat) : natOf (List.replicate n 0) = 0 := by
  induction n with
  | zero => rfl
  | succ k ih => rw [List.replicate_succ, natOf_zero_cons, ih]
theorem OB.only1 {w w' : World} {B : Nat} {v : Value} {l : List Nat} {g : Nat} (h : OB w B v l) (k : Only (· = g) w w') (hs : ∀ g', v.ownBlock = some g' → g' ≠ g) : OB w' B v l :=
  ⟨own_only h.1 k hs, h.2⟩
def SumPost (n : Nat) (w : World) (e : Ending) (w' : World) : Prop := ∃ v l, e = .returned v ∧ OB w' w.heap.size v l ∧ l.head? ≠ some 0 ∧ natOf l = n ∧ Below w.heap.size w w'
set_option maxRecDepth 20000 in
set_option maxHeartbeats 1000000 in
theorem spec_sum (B1 B2 g1 c1 g2 c2 m1 m2 : Nat) (xs ys : List Nat) (w : World) (h1 : OB w B1 (.slice (some ⟨g1, 0, none⟩) m1 c1) xs) (h2 : OB w B2 (.slice (some ⟨g2, 0, none⟩) m2 c2) ys) (hl1 : m1 ≤ 100000) (hl2 : m2 ≤ 100000) :
    Calls Tryz.prog 14 #[.slice (some ⟨g1, 0, none⟩) m1 c1, .slice (some ⟨g2, 0, none⟩) m2 c2] w (SumPost (natOf xs + natOf ys) w) := by
  have hm1 : m1 = xs.length := by obtain ⟨_, _, hv, _⟩ := h1.form; injection hv
  have hm2 : m2 = ys.length := by obtain ⟨_, _, hv, _⟩ := h2.form; injection hv
  obtain ⟨mx, hmx, hmx1, hmx2⟩ : ∃ mx : Nat, max (m1 : Int) (m2 : Int) = (mx : Int) ∧ m1 ≤ mx ∧ m2 ≤ mx := ⟨max m1 m2, by omega, by omega, by omega⟩
  have hmxl : mx ≤ 100000 := by omega
  obtain ⟨n, hn⟩ : ∃ n : Nat, (mx : Int) + 1 = (n : Int) := ⟨mx + 1, by omega⟩
  obtain ⟨W1, hmk, hob, hbw⟩ := bytes_made n (by omega) w
  have H1 := Lib.hid h1
  have H2 := Lib.hid h2
  have HM1 := Lib.hid hm1
  have HM2 := Lib.hid hm2
  have HOB := Lib.hid hob
  have HBW := Lib.hid hbw
  have HLX := Lib.hid (natOf_lt xs h1.2.2)
  have HLY := Lib.hid (natOf_lt ys h2.2.2)
  have hg1 := (h1.1.lt _ rfl).2
  have hg2 := (h2.1.lt _ rfl).2
  have hnb : n ≤ 100001 := by omega
  have HNX : Hid (n = mx + 1) := by unfold Hid; omega
  have hz : w.heap.size < W1.heap.size := (hob.1.lt _ rfl).2
  clear h1 h2 hm1 hm2 hob hbw
  go_enter Tryz.func14, Tryz.ntmps14
  go_wp2_with fail
  go_loopw [7, 8] (fun cv iv wr => ∃ (i carry : Nat) (l : List Nat), i ≤ n ∧ cv = .int .i64 (carry : Int) ∧ iv = .int .i64 (i : Int) ∧ carry ≤ 1 ∧ Hid (OB wr w.heap.size (.slice (some ⟨w.heap.size, 0, none⟩) n n) l) ∧ Hid (l.length = n) ∧ Hid (natOf l + 256 ^ i * carry = natOf xs % 256 ^ i + natOf ys % 256 ^ i) ∧ Hid (∀ j (h : j < l.length), j < n - i → l[j]'h = 0) ∧ Below w.heap.size w wr)
    (fun _ iv _ => n - (intOf iv).toNat)
  case atStart => exact ⟨0, 0, _, Nat.zero_le _, rfl, rfl, by omega, HOB.out, by simp [Hid], by simp [Hid, natOf_zeros, Nat.mod_one], fun j h _ => List.eq_of_mem_replicate (List.getElem_mem h), HBW.out⟩
  case round =>
    obtain ⟨i, carry, l, hi, rfl, rfl, hcy, hob, hln, hnat, hzz, hb⟩ := hrel
    by_cases hin : i < n
    · obtain ⟨k, hk⟩ : ∃ k : Nat, n = k + i + 1 := ⟨n - 1 - i, by omega⟩
      have e1 : (n : Int) - 1 - (i : Int) = (k : Int) := by omega
      have hkn : (k : Int) < (n : Int) := by omega
      have hkl : k < l.length := by rw [hln.out]; omega
      have hcell := hob.out.cell k hkl
      have hfree := hob.out.free k
      obtain ⟨d1, hd1⟩ : ∃ d, d = dig (natOf xs) i := ⟨_, rfl⟩
      obtain ⟨d2, hd2⟩ : ∃ d, d = dig (natOf ys) i := ⟨_, rfl⟩
      have hl1 : d1 < 256 := by rw [hd1]; exact dig_lt _ _
      have hl2 : d2 < 256 := by rw [hd2]; exact dig_lt _ _
      obtain ⟨s, hs⟩ : ∃ s, s = d1 + d2 + carry := ⟨_, rfl⟩
      obtain ⟨x, hx⟩ : ∃ x, x = s % 256 := ⟨_, rfl⟩
      obtain ⟨cy, hcyd⟩ : ∃ c, c = s / 256 := ⟨_, rfl⟩
      have e2 : (d1 : Int) + (d2 : Int) + (carry : Int) = (s : Int) := by omega
      have e3 : (s : Int) % 256 = (x : Int) := by omega
      have e4 : (s : Int) / 256 = (cy : Int) := by omega
      have e5 : IntKind.u8.wrap (x : Int) = (x : Int) := by simp [IntKind.wrap, IntKind.bits, IntKind.signed]; omega
      have hx256 : x < 256 := by omega
      have hcy2 : cy ≤ 1 := by omega
      have HC1 := Lib.hid (digit_any B1 g1 m1 c1 xs i wr (H1.out.below hb) HM1.out (by omega) (by omega))
      have HC2 := Lib.hid (digit_any B2 g2 m2 c2 ys i wr (H2.out.below hb) HM2.out (by omega) (by omega))
      rw [← hd1] at HC1
      rw [← hd2] at HC2
      have HST := Lib.hid (sum_step (natOf xs) (natOf ys) i carry (natOf l) s hnat.out (by rw [hs, hd1, hd2]))
      have HX := Lib.hid hx
      have HCY := Lib.hid hcyd
      have HK := Lib.hid hk
      have hlt : w.heap.size < wr.heap.size := (hob.out.1.lt _ rfl).2
      clear hd1 hd2 hs hx hcyd hk hnat
      go_wp2_with fail
      refine HC1.out.mono ?_
      unfold IntPost
      rintro e w' ⟨rfl, rfl⟩
      go_wp2_with fail
      refine HC2.out.mono ?_
      unfold IntPost
      rintro e w' ⟨rfl, rfl⟩
      go_wp2
      go_roundw
      case rel =>
        refine ⟨i + 1, cy, l.set k x, by omega, rfl, by go_num, hcy2, hob.out.store k x hx256, by simpa [Hid] using hln.out, ?_, ?_, hb.setCell (p := ⟨w.heap.size, k, none⟩) (Nat.le_refl _) _⟩
        · unfold Hid
          rw [natOf_set l k x hkl (hzz.out k hkl (by have := HK.out; omega)), hln.out, show n - 1 - k = i by have := HK.out; omega, HX.out, HCY.out]
          exact HST.out
        · intro j hj hjk
          rw [List.getElem_set_ne (by have := HK.out; omega)]
          exact hzz.out j (by simpa using hj) (by omega)
      case measure => simp [intOf]; omega
    · obtain rfl : i = n := by omega
      have hpow : ∀ m, m ≤ mx → 256 ^ m ≤ 256 ^ mx := fun m h => Nat.pow_le_pow_right (by omega) h
      have ha : natOf xs < 256 ^ mx := by have := HLX.out; rw [← HM1.out] at this; exact Nat.lt_of_lt_of_le this (hpow _ hmx1)
      have hb2 : natOf ys < 256 ^ mx := by have := HLY.out; rw [← HM2.out] at this; exact Nat.lt_of_lt_of_le this (hpow _ hmx2)
      have hp : 256 ^ i = 256 ^ mx * 256 := by rw [HNX.out, Nat.pow_succ]
      have hfin : natOf l = natOf xs + natOf ys := by
        have h := hnat.out
        rw [Nat.mod_eq_of_lt (by omega), Nat.mod_eq_of_lt (by omega)] at h
        have hc0 : carry = 0 := by
          rcases Nat.eq_zero_or_pos carry with h0 | h0
          · exact h0
          · exfalso
            obtain rfl : carry = 1 := by omega
            omega
        subst hc0
        omega
      have HF := Lib.hid hfin
      have HCUT := Lib.hid (cut_any (some ⟨w.heap.size, 0, none⟩) i i l wr hob.out.bsl (by rw [hln.out]; omega))
      clear hpow ha hb2 hp hfin hnat hcy
      go_wp2_with fail
      refine HCUT.out.mono ?_
      rintro e w2 ⟨v, rfl, hv, hb3⟩
      have HV := Lib.hid hv
      have HB3 := Lib.hid (hb.trans (hb3.mono hb.size))
      have HBZ := Lib.hid hb.size
      clear hv hb3
      go_wp2
      go_ret
      exact ⟨v, strip l, rfl, HV.out.base HBZ.out, strip_head l, by rw [natOf_strip]; exact HF.out, HB3.out⟩
set_option maxRecDepth 20000 in
set_option maxHeartbeats 1600000 in
theorem spec_less (B1 B2 g1 c1 g2 c2 m1 m2 : Nat) (xs ys : List Nat) (w : World) (h1 : OB w B1 (.slice (some ⟨g1, 0, none⟩) m1 c1) xs) (h2 : OB w B2 (.slice (some ⟨g2, 0, none⟩) m2 c2) ys) (hl1 : m1 ≤ 100000) (hl2 : m2 ≤ 1000000) (hle : natOf ys ≤ natOf xs) :
    Calls Tryz.prog 15 #[.slice (some ⟨g1, 0, none⟩) m1 c1, .slice (some ⟨g2, 0, none⟩) m2 c2] w (SumPost (natOf xs - natOf ys) w) := by
  have hm1 : m1 = xs.length := by obtain ⟨_, _, hv, _⟩ := h1.form; injection hv
  have hm2 : m2 = ys.length := by obtain ⟨_, _, hv, _⟩ := h2.form; injection hv
  obtain ⟨W1, hmk, hob, hbw⟩ := bytes_made m1 (by omega) w
  have H1 := Lib.hid h1
  have H2 := Lib.hid h2
  have HM1 := Lib.hid hm1
  have HM2 := Lib.hid hm2
  have HOB := Lib.hid hob
  have HBW := Lib.hid hbw
  have HLX := Lib.hid (natOf_lt xs h1.2.2)
  have HLE := Lib.hid hle
  have hg1 := (h1.1.lt _ rfl).2
  have hg2 := (h2.1.lt _ rfl).2
  have hz : w.heap.size < W1.heap.size := (hob.1.lt _ rfl).2
  clear h1 h2 hm1 hm2 hob hbw hle
  go_enter Tryz.func15, Tryz.ntmps15
  go_wp2_with fail
  go_loopw [6, 7] (fun cv iv wr => ∃ (i borrow : Nat) (l : List Nat), i ≤ m1 ∧ cv = .int .i64 (borrow : Int) ∧ iv = .int .i64 (i : Int) ∧ borrow ≤ 1 ∧ Hid (OB wr w.heap.size (.slice (some ⟨w.heap.size, 0, none⟩) m1 m1) l) ∧ Hid (l.length = m1) ∧ Hid (natOf l + natOf ys % 256 ^ i = natOf xs % 256 ^ i + 256 ^ i * borrow) ∧ Hid (∀ j (h : j < l.length), j < m1 - i → l[j]'h = 0) ∧ Below w.heap.size w wr)
    (fun _ iv _ => m1 - (intOf iv).toNat)
  case atStart => exact ⟨0, 0, _, Nat.zero_le _, rfl, rfl, by omega, HOB.out, by simp [Hid], by simp [Hid, natOf_zeros, Nat.mod_one], fun j h _ => List.eq_of_mem_replicate (List.getElem_mem h), HBW.out⟩
  case round =>
    obtain ⟨i, borrow, l, hi, rfl, rfl, hcy, hob, hln, hnat, hzz, hb⟩ := hrel
    by_cases hin : i < m1
    · obtain ⟨k, hk⟩ : ∃ k : Nat, m1 = k + i + 1 := ⟨m1 - 1 - i, by omega⟩
      have e1 : (m1 : Int) - 1 - (i : Int) = (k : Int) := by omega
      have hkn : (k : Int) < (m1 : Int) := by omega
      have hkl : k < l.length := by rw [hln.out]; omega
      have hcell := hob.out.cell k hkl
      have hfree := hob.out.free k
      obtain ⟨d1, hd1⟩ : ∃ d, d = dig (natOf xs) i := ⟨_, rfl⟩
      obtain ⟨d2, hd2⟩ : ∃ d, d = dig (natOf ys) i := ⟨_, rfl⟩
      have hd1l : d1 < 256 := by rw [hd1]; exact dig_lt _ _
      have hd2l : d2 < 256 := by rw [hd2]; exact dig_lt _ _
      obtain ⟨D, e2⟩ : ∃ D : Int, (d1 : Int) - (d2 : Int) - (borrow : Int) = D := ⟨_, rfl⟩
      have hD1 : D < 256 := by omega
      have hD2 : -256 ≤ D := by omega
      have hlt : w.heap.size < wr.heap.size := (hob.out.1.lt _ rfl).2
      by_cases hneg : D < 0
      · obtain ⟨x, hx⟩ : ∃ x : Nat, D + 256 = (x : Int) := ⟨(D + 256).toNat, by omega⟩
        have hx256 : x < 256 := by omega
        have e5 : IntKind.u8.wrap (x : Int) = (x : Int) := by simp [IntKind.wrap, IntKind.bits, IntKind.signed]; omega
        have HST := Lib.hid (less_step (natOf xs) (natOf ys) i borrow (natOf l) x 1 hnat.out (by rw [← hd1, ← hd2]; omega))
        have HC1 := Lib.hid (digit_any B1 g1 m1 c1 xs i wr (H1.out.below hb) HM1.out (by omega) (by omega))
        have HC2 := Lib.hid (digit_any B2 g2 m2 c2 ys i wr (H2.out.below hb) HM2.out (by omega) (by omega))
        rw [← hd1] at HC1
        rw [← hd2] at HC2
        have HK := Lib.hid hk
        clear hd1 hd2 hk hnat
        go_wp2_with fail
        refine HC1.out.mono ?_
        unfold IntPost
        rintro e w' ⟨rfl, rfl⟩
        go_wp2_with fail
        refine HC2.out.mono ?_
        unfold IntPost
        rintro e w' ⟨rfl, rfl⟩
        go_wp2
        go_roundw
        case rel =>
          refine ⟨i + 1, 1, l.set k x, by omega, rfl, by go_num, by omega, hob.out.store k x hx256, by simpa [Hid] using hln.out, ?_, ?_, hb.setCell (p := ⟨w.heap.size, k, none⟩) (Nat.le_refl _) _⟩
          · unfold Hid
            rw [natOf_set l k x hkl (hzz.out k hkl (by have := HK.out; omega)), hln.out, show m1 - 1 - k = i by have := HK.out; omega]
            exact HST.out
          · intro j hj hjk
            rw [List.getElem_set_ne (by have := HK.out; omega)]
            exact hzz.out j (by simpa using hj) (by omega)
        case measure => simp [intOf]; omega
      · obtain ⟨x, rfl⟩ : ∃ x : Nat, D = (x : Int) := ⟨D.toNat, by omega⟩
        have hx256 : x < 256 := by omega
        have e5 : IntKind.u8.wrap (x : Int) = (x : Int) := by simp [IntKind.wrap, IntKind.bits, IntKind.signed]; omega
        have HST := Lib.hid (less_step (natOf xs) (natOf ys) i borrow (natOf l) x 0 hnat.out (by rw [← hd1, ← hd2]; omega))
        have HC1 := Lib.hid (digit_any B1 g1 m1 c1 xs i wr (H1.out.below hb) HM1.out (by omega) (by omega))
        have HC2 := Lib.hid (digit_any B2 g2 m2 c2 ys i wr (H2.out.below hb) HM2.out (by omega) (by omega))
        rw [← hd1] at HC1
        rw [← hd2] at HC2
        have HK := Lib.hid hk
        clear hd1 hd2 hk hnat
        go_wp2_with fail
        refine HC1.out.mono ?_
        unfold IntPost
        rintro e w' ⟨rfl, rfl⟩
        go_wp2_with fail
        refine HC2.out.mono ?_
        unfold IntPost
        rintro e w' ⟨rfl, rfl⟩
        go_wp2
        go_roundw
        case rel =>
          refine ⟨i + 1, 0, l.set k x, by omega, rfl, by go_num, by omega, hob.out.store k x hx256, by simpa [Hid] using hln.out, ?_, ?_, hb.setCell (p := ⟨w.heap.size, k, none⟩) (Nat.le_refl _) _⟩
          · unfold Hid
            rw [natOf_set l k x hkl (hzz.out k hkl (by have := HK.out; omega)), hln.out, show m1 - 1 - k = i by have := HK.out; omega]
            exact HST.out
          · intro j hj hjk
            rw [List.getElem_set_ne (by have := HK.out; omega)]
            exact hzz.out j (by simpa using hj) (by omega)
        case measure => simp [intOf]; omega
    · obtain rfl : i = m1 := by omega
      have ha : natOf xs < 256 ^ i := by have := HLX.out; rw [← HM1.out] at this; exact this
      have hfin : natOf l = natOf xs - natOf ys := by
        have h := hnat.out
        have hle := HLE.out
        rw [Nat.mod_eq_of_lt (by omega), Nat.mod_eq_of_lt (by omega)] at h
        have hll := natOf_lt l hob.out.2.2
        rw [hln.out] at hll
        rcases Nat.eq_zero_or_pos borrow with h0 | h0
        · subst h0; omega
        · exfalso
          obtain rfl : borrow = 1 := by omega
          omega
      have HF := Lib.hid hfin
      have HCUT := Lib.hid (cut_any (some ⟨w.heap.size, 0, none⟩) i i l wr hob.out.bsl (by rw [hln.out]; omega))
      clear ha hfin hnat hcy
      go_wp2_with fail
      refine HCUT.out.mono ?_
      rintro e w2 ⟨v, rfl, hv, hb3⟩
      have HV := Lib.hid hv
      have HB3 := Lib.hid (hb.trans (hb3.mono hb.size))
      have HBZ := Lib.hid hb.size
      clear hv hb3
      go_wp2
      go_ret
      exact ⟨v, strip l, rfl, HV.out.base HBZ.out, strip_head l, by rw [natOf_strip]; exact HF.out, HB3.out⟩
end Go.Proofs.YtndeolcamgnmdaaGreatDoor
set_option linter.unusedVariables false
set_option linter.unusedSimpArgs false
set_option linter.unnecessarySimpa false
namespace Go.Proofs.YtndeolcamgnmdaaGreatDoor
open Go.RowKit
theorem sg_zero : wrap64 (bits .or .u64 0 0) = 0 := by decide +kernel
theorem sg_pos (x : Int) (h0 : 0 < x) (h1 : x < 2147483648) : wrap64 (bits .or .u64 (x / 9223372036854775808) (IntKind.u64.wrap (-x) / 9223372036854775808)) = 1 := by
  have e1 : x / 9223372036854775808 = 0 := by omega
  have e2 : IntKind.u64.wrap (-x) / 9223372036854775808 = 1 := by
    have h : IntKind.u64.wrap (-x) = 18446744073709551616 - x := by
      simp [IntKind.wrap, IntKind.bits, IntKind.signed]
      omega
    rw [h]; omega
  rw [e1, e2]
  decide +kernel
theorem sg_neg (x : Int) (h0 : x < 0) (h1 : -2147483648 ≤ x) : wrap64 (bits .or .u64 (IntKind.u64.wrap (x / 9223372036854775808)) (-x / 9223372036854775808)) = -1 := by
  have e1 : x / 9223372036854775808 = -1 := by omega
  have e2 : -x / 9223372036854775808 = 0 := by omega
  rw [e1, e2]
  decide +kernel
def sgnS (n : Int) : Int := if n < 0 then -1 else if n = 0 then 0 else 1
theorem signum_any (x : Int) (h0 : x < 2147483648) (h1 : -2147483648 ≤ x) (w : World) :
    Calls Tryz.prog 29 #[.int .i64 x] w (IntPost (sgn x) w) := by
  by_cases hn : x < 0
  · have HS : Hid (sgn x = -1) := by unfold Hid sgn; rw [if_pos hn]
    have HV := Lib.hid (sg_neg x hn h1)
    go_enter Tryz.func29, Tryz.ntmps29
    go_wp2
    go_ret
    exact ⟨ret_int (by rw [HS.out]; exact HV.out), rfl⟩
  · by_cases hz : x = 0
    · subst hz
      have HS : Hid (sgn 0 = 0) := rfl
      go_enter Tryz.func29, Tryz.ntmps29
      go_wp2
      go_ret
      exact ⟨ret_int (by rw [HS.out]; exact sg_zero), rfl⟩
    · have HS : Hid (sgn x = 1) := by unfold Hid sgn; rw [if_neg hn, if_neg hz]
      have hp : 0 < x := by omega
      have HV := Lib.hid (sg_pos x hp h0)
      clear hn hz
      go_enter Tryz.func29, Tryz.ntmps29
      go_wp2
      go_ret
      exact ⟨ret_int (by rw [HS.out]; exact HV.out), rfl⟩
theorem signW_sgn (neg : Bool) (ws : List Nat) (ht : TopNZ ws) : signW neg ws = sgn (valI neg ws) := by
  unfold signW sgn valI
  by_cases h : ws = []
  · subst h; cases neg <;> simp [valW]
  · have hp : 0 < valW ws := by
      obtain ⟨init, last, rfl⟩ : ∃ init last, ws = init ++ [last] := ⟨ws.dropLast, ws.getLast h, (List.dropLast_concat_getLast h).symm⟩
      have hl0 : last ≠ 0 := by unfold TopNZ at ht; simpa using ht
      have h1 := valW_top init last hl0
      have h2 : 0 < W64 ^ init.length := Nat.pow_pos W64_pos
      omega
    rw [if_neg h]
    cases neg
    · simp; omega
    · simp; omega
def SgnPost (n : Int) (w : World) (e : Ending) (w' : World) : Prop := e = .returned (.int .i64 (sgn n)) ∧ Below w.heap.size w w'
set_option maxHeartbeats 1000000 in
theorem star_sign (B : Nat) (v : Value) (n : Int) (w : World) (hv : SI w B v n) :
    Calls Tryz.prog 17 #[v] w (SgnPost n w) := by
  rcases hv with ⟨hs, rfl⟩ | ⟨hs, b, neg, ws, rfl, _, hbi, hval⟩
  · have h1 := of_decide_eq_true hs
    have ha : n < 2147483648 := h1.2
    have hb : -2147483648 ≤ n := h1.1
    clear hs h1
    go_enter Tryz.func17, Tryz.ntmps17
    go_wp2_with fail
    refine (int_get n none _).mono ?_
    rintro e w1 ⟨rfl, hb1⟩
    have hbw := ((Below.refl _ w).alloc (Nat.le_refl _) _).trans (hb1.mono (by simp))
    clear hb1
    go_wp2_with fail
    refine (signum_any n ha hb _).mono ?_
    unfold IntPost
    rintro e w2 ⟨rfl, rfl⟩
    go_wp2
    go_ret
    exact ⟨rfl, hbw⟩
  · have HV := Lib.hid hval
    have ht : TopNZ ws := by obtain ⟨_, _, _, h, _⟩ := hbi; exact h
    have HS := Lib.hid (signW_sgn neg ws ht)
    have HBI := Lib.hid (hbi.below ((Below.refl _ w).alloc (Nat.le_refl _) (.cells #[.int .i64 0, .pointer (some ⟨b, 0, none⟩)] 48)))
    clear hs hval hbi ht
    go_enter Tryz.func17, Tryz.ntmps17
    go_wp2_with fail
    refine (int_get 0 (some ⟨b, 0, none⟩) _).mono ?_
    rintro e w1 ⟨rfl, hb1⟩
    have HBI1 := Lib.hid (HBI.out.below hb1)
    have hbw := ((Below.refl _ w).alloc (Nat.le_refl _) _).trans (hb1.mono (by simp))
    clear hb1
    go_wp2_with fail
    refine (big_sign B b neg ws _ HBI1.out).mono ?_
    unfold SignWPost
    rw [HS.out, HV.out]
    rintro e w2 ⟨rfl, rfl⟩
    go_wp2
    go_ret
    exact ⟨rfl, hbw⟩
end Go.Proofs.YtndeolcamgnmdaaGreatDoor
namespace Go.Proofs.YtndeolcamgnmdaaGreatDoor
theorem div_half (A i : Nat) : A / 2 ^ i = 2 * (A / 2 ^ (i + 1)) + bitAt A i := by
  unfold bitAt
  rw [Nat.pow_succ, ← Nat.div_div_eq_div_mul]
  omega
/-- One step of a division, bit by bit. -/
theorem div_step (A B i : Nat) (hB : 0 < B) :
    2 * ((A / 2 ^ (i + 1)) % B) + bitAt A i < 2 * B ∧
    (B ≤ 2 * ((A / 2 ^ (i + 1)) % B) + bitAt A i → (A / 2 ^ i) % B = 2 * ((A / 2 ^ (i + 1)) % B) + bitAt A i - B ∧ (A / 2 ^ i) / B = 2 * ((A / 2 ^ (i + 1)) / B) + 1) ∧
    (2 * ((A / 2 ^ (i + 1)) % B) + bitAt A i < B → (A / 2 ^ i) % B = 2 * ((A / 2 ^ (i + 1)) % B) + bitAt A i ∧ (A / 2 ^ i) / B = 2 * ((A / 2 ^ (i + 1)) / B)) := by
  rw [div_half A i]
  have hb : bitAt A i < 2 := by unfold bitAt; omega
  generalize bitAt A i = b at hb
  generalize A / 2 ^ (i + 1) = M
  have hr := Nat.mod_lt M hB
  have hm := Nat.div_add_mod M B
  generalize hR : M % B = R at hr hm
  generalize hQ : M / B = Q at hm
  have e : 2 * M + b = B * (2 * Q) + (2 * R + b) := by
    rw [← hm]
    have : B * (2 * Q) = 2 * (B * Q) := by rw [← Nat.mul_assoc, Nat.mul_comm B 2, Nat.mul_assoc]
    omega
  refine ⟨by omega, fun h => ?_, fun h => ?_⟩
  · have e2 : 2 * M + b = (2 * R + b - B) + B * (2 * Q + 1) := by
      rw [e, Nat.mul_add]; omega
    rw [e2]
    exact ⟨by rw [Nat.add_mul_mod_self_left]; exact Nat.mod_eq_of_lt (by omega), by rw [Nat.add_mul_div_left _ _ hB, Nat.div_eq_of_lt (by omega)]; omega⟩
  · have e2 : 2 * M + b = (2 * R + b) + B * (2 * Q) := by rw [e]; omega
    rw [e2]
    exact ⟨by rw [Nat.add_mul_mod_self_left]; exact Nat.mod_eq_of_lt (by omega), by rw [Nat.add_mul_div_left _ _ hB, Nat.div_eq_of_lt (by omega)]; omega⟩
theorem natOf_put : ∀ (ws : List Nat) (i x : Nat) (h : i < ws.length), natOf (ws.set i x) + (ws[i]'h) * 256 ^ (ws.length - 1 - i) = natOf ws + x * 256 ^ (ws.length - 1 - i)
  | [], i, x, h => by simp at h
  | y :: r, 0, x, h => by
    simp [natOf]
    omega
  | y :: r, i + 1, x, h => by
    have := natOf_put r i x (by simpa using h)
    simp only [List.set_cons_succ, natOf, List.length_set, List.length_cons, List.getElem_cons_succ]
    rw [show r.length + 1 - 1 - (i + 1) = r.length - 1 - i by omega]
    omega
/-- A bit put into a byte whose bits up to there are 0. -/
theorem or_bit (x k : Nat) (hx : x < 256) (hk : k < 8) (h0 : x % 2 ^ (k + 1) = 0) : x ||| 2 ^ k = x + 2 ^ k ∧ x + 2 ^ k < 256 := by
  have hall : ∀ k : Fin 8, ∀ x : Fin 256, x.val % 2 ^ (k.val + 1) = 0 → x.val ||| 2 ^ k.val = x.val + 2 ^ k.val ∧ x.val + 2 ^ k.val < 256 := by decide +kernel
  exact hall ⟨k, hk⟩ ⟨x, hx⟩ h0
/-- The byte of a number whose bits up to i are 0. -/
theorem dig_low0 (q i : Nat) : dig (q * 2 ^ (i + 1)) (i / 8) % 2 ^ (i % 8 + 1) = 0 := by
  unfold dig
  have e : (256 : Nat) ^ (i / 8) = 2 ^ (8 * (i / 8)) := by rw [Nat.pow_mul]
  have h1 : 2 ^ (i + 1) = 2 ^ (i % 8 + 1) * 2 ^ (8 * (i / 8)) := by rw [← Nat.pow_add]; congr 1; omega
  rw [e, h1, ← Nat.mul_assoc, Nat.mul_div_cancel _ (Nat.pow_pos (by omega))]
  have h2 : i % 8 < 8 := Nat.mod_lt _ (by omega)
  generalize i % 8 = k at h2
  have h3 : 256 = 2 ^ (k + 1) * 2 ^ (7 - k) := by rw [← Nat.pow_add, show k + 1 + (7 - k) = 8 by omega]
  rw [h3, Nat.mod_mul_right_mod, Nat.mul_mod_left]
/-- The quotient's bytes with one more bit. -/
theorem quo_put (ql : List Nat) (q i n : Nat) (hb : ∀ x ∈ ql, x < 256) (hl : ql.length = n) (hi : i < 8 * n) (hq : natOf ql = q * 2 ^ (i + 1)) (hj : n - 1 - i / 8 < ql.length) :
    (ql[n - 1 - i / 8]'hj) % 2 ^ (i % 8 + 1) = 0 ∧ natOf (ql.set (n - 1 - i / 8) (ql[n - 1 - i / 8]'hj + 2 ^ (i % 8))) = (2 * q + 1) * 2 ^ i := by
  have hd := dig_at ql (i / 8) hb (n - 1 - i / 8) hj (by omega)
  refine ⟨?_, ?_⟩
  · rw [← hd, hq]
    exact dig_low0 q i
  · have hp := natOf_put ql (n - 1 - i / 8) (ql[n - 1 - i / 8]'hj + 2 ^ (i % 8)) hj
    rw [hl, show n - 1 - (n - 1 - i / 8) = i / 8 by omega, Nat.add_mul] at hp
    have e : 2 ^ (i % 8) * 256 ^ (i / 8) = 2 ^ i := by
      rw [show (256 : Nat) = 2 ^ 8 by rfl, ← Nat.pow_mul, ← Nat.pow_add]
      congr 1
      omega
    rw [e, hq] at hp
    have e2 : q * 2 ^ (i + 1) = 2 * q * 2 ^ i := by rw [Nat.pow_succ, Nat.mul_comm (2 ^ i) 2, ← Nat.mul_assoc, Nat.mul_comm q 2]
    rw [Nat.add_mul, Nat.one_mul, ← e2]
    omega
end Go.Proofs.YtndeolcamgnmdaaGreatDoor
