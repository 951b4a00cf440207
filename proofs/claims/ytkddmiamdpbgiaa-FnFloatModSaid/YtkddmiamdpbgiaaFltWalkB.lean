/- Frexp and Ldexp on floats above 0. -/
import Derived.Test.YtkddmiamdpbgiaaFltWalkA
namespace Go.Proofs.Ytkddmiamdpbgiaa
open Go.RowKit
theorem ofInt_i64 (a : Nat) (ha : a < 9223372036854775808) : (BitVec.ofInt 64 (a : Int)).toNat = a := by
  rw [BitVec.ofInt_natCast, BitVec.toNat_ofNat]; exact Nat.mod_eq_of_lt (by omega)
theorem i64_and_nat (a b : Nat) (ha : a < 9223372036854775808) (hb : b < 9223372036854775808) : bits .and .i64 (a : Int) (b : Int) = ((a &&& b : Nat) : Int) := by
  have hx : a &&& b < 2 ^ 63 := Nat.and_lt_two_pow _ (by omega)
  show IntKind.i64.wrap ((BitVec.ofInt 64 (a : Int) &&& BitVec.ofInt 64 (b : Int)).toNat : Int) = _
  rw [BitVec.toNat_and, ofInt_i64 a ha, ofInt_i64 b hb, IntKind.wrap_i64]
  omega
theorem ord_lt {r s : Nat} (hr : r < infR) (hs : s < infR) : (FloatKind.f64.format.order r s == some .lt) = decide (r < s) := by
  show (Ieee.double.order (FW false r) (FW false s) == _) = _
  rw [order_fw false false hr hs, cmp_lt]
  unfold sval
  simp only [Bool.false_eq_true, if_false, Int.ofNat_lt, fval_lt]
theorem ord_gt {r s : Nat} (hr : r < infR) (hs : s < infR) : (FloatKind.f64.format.order r s == some .gt) = decide (s < r) := by
  show (Ieee.double.order (FW false r) (FW false s) == _) = _
  rw [order_fw false false hr hs, cmp_gt]
  unfold sval
  simp only [Bool.false_eq_true, if_false, Int.ofNat_lt, fval_lt]
theorem ord_eq0 {r : Nat} (hr : r < infR) (h0 : 0 < r) : (FloatKind.f64.format.order r 0 == some .eq) = false := by
  show (Ieee.double.order (FW false r) (FW false 0) == _) = _
  rw [order_fw false false hr (by decide), cmp_eq]
  unfold sval
  have := fval_pos h0
  have := fval_zero
  simp only [Bool.false_eq_true, if_false]
  simp
  omega
theorem ord_self {r : Nat} (hr : r < infR) : (FloatKind.f64.format.order r r != some .eq) = false := by
  show (Ieee.double.order (FW false r) (FW false r) != _) = _
  rw [order_fw false false hr hr, bne, cmp_eq]
  simp
def FrexpPost (y : Nat) (w : World) (e : Ending) (w' : World) : Prop := ∃ n : Int, e = .returned (.tuple #[.float .f64 (1022 * B52 + (fsig y - B52)), .int .i64 n]) ∧ n = (flog y : Int) - 1073 ∧ w = w'
set_option maxRecDepth 20000 in
set_option maxHeartbeats 1000000 in
theorem frexp_any (y : Nat) (h0 : 0 < y) (hy : y < infR) (w : World) : Calls Try.prog 49 #[.float .f64 y] w (FrexpPost y w) := by
  have hS : infR < S63 := by decide
  have hz := ord_eq0 hy h0
  have hmax : (9218868437227405311 : Nat) = infR - 1 := by decide
  have hgt : (FloatKind.f64.format.order y 9218868437227405311 == some .gt) = false := by
    rw [hmax, ord_gt hy (by omega)]; simp; omega
  have HI := Lib.hid (isinf_any false y (by omega) false hgt)
  rw [fw_false] at HI
  have HN := Lib.hid (isnan_any y false (ord_self hy))
  have HZ := Lib.hid (normalize_any y h0 hy)
  have HS := Lib.hid (fsig_spec h0)
  clear hmax hgt hS h0 hy
  go_enter Try.func49, Try.ntmps49
  go_wp2_with fail
  refine (HI.out _).mono ?_
  unfold BPost
  rintro e w' ⟨rfl, rfl⟩
  go_wp2_with fail
  refine (HN.out _).mono ?_
  unfold BPost
  rintro e w' ⟨rfl, rfl⟩
  go_wp2_with fail
  refine (HZ.out _).mono ?_
  rintro e w' ⟨z, f, k, rfl, hf, hm, hfk, hf1, hf2, hz2, hk1, hk2, rfl⟩
  obtain ⟨t, ht⟩ : ∃ t, t = fsig y - B52 := ⟨_, rfl⟩
  have htl : t < B52 := by
    have := HS.out.2.1
    have := B52_pos
    omega
  have hS : infR < S63 := by decide
  have e1 : (z : Int) / 4503599627370496 = (f : Int) := by
    rw [← hf]; rfl
  have e2 : bits .and .u64 (f : Int) 2047 = (f : Int) := by
    rw [and_2047 f (by omega), Nat.mod_eq_of_lt (by omega)]
  have e3 : bits .andNot .u64 (z : Int) 9218868437227405312 = (t : Int) := by
    rw [clr_exp z (by omega), hm, ht]
  have e4 : bits .or .u64 (t : Int) 4602678819172646912 = ((1022 * B52 + t : Nat) : Int) := set_exp t 1022 htl (by omega)
  have HFK := Lib.hid hfk
  have HT := Lib.hid ht
  have hf1' : (1 : Int) ≤ f := by omega
  have hf2' : (f : Int) ≤ 2046 := by omega
  clear hf hm hfk ht htl hS hz2 hf1 hf2
  go_wp2
  go_ret2
  exact ⟨_, by rw [← HT.out]; rfl, by have := HFK.out; omega, rfl⟩
theorem shl_cast (n : Nat) : ((n * B52 : Nat) : Int) = (n : Int) * 4503599627370496 := by
  rw [Int.natCast_mul]; rfl
set_option maxRecDepth 20000 in
set_option maxHeartbeats 2000000 in
theorem ldexp_any (y k s : Nat) (h0 : 0 < y) (hy : y < infR) (hk : k ≤ 2100) (hs : s < infR) (hv : fval s = fval y * 2 ^ k) (w : World) : Calls Try.prog 51 #[.float .f64 y, .int .i64 (k : Int)] w (FPost s w) := by
  have hS : infR < S63 := by decide
  have hz := ord_eq0 hy h0
  have hmax : (9218868437227405311 : Nat) = infR - 1 := by decide
  have hgt : (FloatKind.f64.format.order y 9218868437227405311 == some .gt) = false := by
    rw [hmax, ord_gt hy (by omega)]; simp; omega
  have HI := Lib.hid (isinf_any false y (by omega) false hgt)
  rw [fw_false] at HI
  have HN := Lib.hid (isnan_any y false (ord_self hy))
  have HZ := Lib.hid (normalize_any y h0 hy)
  have HS := Lib.hid (fsig_spec h0)
  have HLN := Lib.hid (fun h => ldexp_norm (k := k) h0 hs hv h)
  have HLD := Lib.hid (fun h => ldexp_den (k := k) h0 hs hv h)
  have HSI := Lib.hid hs
  clear hmax hgt hS h0 hy hs hv
  go_enter Try.func51, Try.ntmps51
  go_wp2_with fail
  refine (HI.out _).mono ?_
  unfold BPost
  rintro e w' ⟨rfl, rfl⟩
  go_wp2_with fail
  refine (HN.out _).mono ?_
  unfold BPost
  rintro e w' ⟨rfl, rfl⟩
  go_wp2_with fail
  refine (HZ.out _).mono ?_
  rintro e w' ⟨z, f, kk, rfl, hf, hm, hfk, hf1, hf2, hz2, hk1, hk2, rfl⟩
  obtain ⟨t, ht⟩ : ∃ t, t = fsig y - B52 := ⟨_, rfl⟩
  have htl : t < B52 := by
    have := HS.out.2.1
    have := B52_pos
    omega
  have hS : infR < S63 := by decide
  have e1 : (z : Int) / 4503599627370496 = (f : Int) := by
    rw [← hf]; rfl
  have e2 : bits .and .i64 (f : Int) 2047 = (f : Int) := by
    have := i64_and_nat f 2047 (by omega) (by omega)
    rw [show ((2047 : Nat) : Int) = 2047 from rfl] at this
    rw [this, show (2047 : Nat) = 2 ^ 11 - 1 by decide, Nat.and_two_pow_sub_one_eq_mod, Nat.mod_eq_of_lt (by omega)]
  have e3 : bits .andNot .u64 (z : Int) 9218868437227405312 = (t : Int) := by
    rw [clr_exp z (by omega), hm, ht]
  have hf1' : (1 : Int) ≤ f := by omega
  have hf2' : (f : Int) ≤ 2046 := by omega
  have hT : fsig y = B52 + t := by have := HS.out.1; omega
  by_cases hc : flog y + k < 52
  · obtain ⟨d1, d2⟩ := HLD.out hc
    obtain ⟨n, hn⟩ : ∃ n : Nat, n = flog y + k + 2 := ⟨_, rfl⟩
    have q1 : (k : Int) + kk + ((f : Int) - 1023) < -1022 := by omega
    have q2 : (k : Int) + kk + ((f : Int) - 1023) + 53 + 1023 = (n : Int) := by omega
    have q3 : (n : Int) ≤ 60 := by omega
    have e4 : bits .or .u64 (t : Int) ((n : Int) * 4503599627370496) = ((n * B52 + t : Nat) : Int) := by rw [← shl_cast]; exact set_exp t n htl (by omega)
    have e5 : (flog y + k + 1) * B52 + fsig y = n * B52 + t := by rw [hn, hT, show flog y + k + 2 = (flog y + k + 1) + 1 by omega, Nat.succ_mul (flog y + k + 1)]; omega
    rw [e5] at d1
    obtain ⟨q, hq⟩ : ∃ q, q = n * B52 + t := ⟨_, rfl⟩
    rw [← hq] at e4 d1
    have hmul := fun W => run_float_arith (P := Try.prog) W .mul 23 .f64 4368491638549381120 q s d1
    clear hf hm hfk ht htl hS hz2 hf1 hf2 hT hc d1 d2 hn e5 hq
    go_wp2
    go_ret
    exact ⟨rfl, rfl⟩
  · obtain ⟨l1, l2⟩ := HLN.out (by omega)
    obtain ⟨n, hn⟩ : ∃ n : Nat, n = flog y + k - 51 := ⟨_, rfl⟩
    have q1 : -1022 ≤ (k : Int) + kk + ((f : Int) - 1023) := by omega
    have q0 : (k : Int) + kk + ((f : Int) - 1023) ≤ 1023 := by omega
    have q2 : (k : Int) + kk + ((f : Int) - 1023) + 1023 = (n : Int) := by omega
    have q3 : (n : Int) ≤ 2046 := by omega
    have e4 : bits .or .u64 (t : Int) ((n : Int) * 4503599627370496) = ((n * B52 + t : Nat) : Int) := by rw [← shl_cast]; exact set_exp t n htl (by omega)
    have e5 : n * B52 + t = s := by rw [l1, hn, hT, show flog y + k - 51 = (flog y + k - 52) + 1 by omega, Nat.succ_mul (flog y + k - 52)]; omega
    rw [e5] at e4
    have hs0 : 0 < s := by
      have := HS.out.1
      have := B52_pos
      omega
    have hmul := fun W => run_float_arith (P := Try.prog) W .mul 23 .f64 4607182418800017408 s s (ldexp_one HSI.out hs0)
    clear hf hm hfk ht htl hS hz2 hf1 hf2 hT hc hn e5 l1 l2 hs0
    go_wp2
    go_ret
    exact ⟨rfl, rfl⟩
theorem Frexp_any (y : Nat) (h0 : 0 < y) (hy : y < infR) (w : World) : Calls Try.prog 42 #[.float .f64 y] w (FrexpPost y w) := by
  have H := Lib.hid (frexp_any y h0 hy)
  clear h0 hy
  go_enter Try.func42, Try.ntmps42
  go_wp2_with fail
  refine (H.out _).mono ?_
  rintro e w' ⟨n, rfl, hn, rfl⟩
  have HN := Lib.hid hn
  clear hn
  go_wp2
  go_ret2
  exact ⟨n, rfl, HN.out, rfl⟩
theorem Ldexp_any (y k s : Nat) (h0 : 0 < y) (hy : y < infR) (hk : k ≤ 2100) (hs : s < infR) (hv : fval s = fval y * 2 ^ k) (w : World) : Calls Try.prog 43 #[.float .f64 y, .int .i64 (k : Int)] w (FPost s w) := by
  have H := Lib.hid (ldexp_any y k s h0 hy hk hs hv)
  clear h0 hy hk hs hv
  go_enter Try.func43, Try.ntmps43
  go_wp2_with fail
  refine (H.out _).mono ?_
  unfold FPost
  rintro e w' ⟨rfl, rfl⟩
  go_wp2
  go_ret
  exact ⟨rfl, rfl⟩
theorem ord_inf0 : (FloatKind.f64.format.order infR 0 == some .eq) = false := by decide
theorem ord_infmax : (FloatKind.f64.format.order infR 9218868437227405311 == some .gt) = true := by decide
/-- Of an infinity. -/
theorem Frexp_inf (w : World) : Calls Try.prog 42 #[.float .f64 infR] w fun e w' => e = .returned (.tuple #[.float .f64 infR, .int .i64 0]) ∧ w = w' := by
  have HI := Lib.hid (isinf_any false infR (by decide) true ord_infmax)
  rw [fw_false] at HI
  have hz := ord_inf0
  have HF : Hid (∀ w, Calls Try.prog 49 #[.float .f64 infR] w fun e w' => e = .returned (.tuple #[.float .f64 infR, .int .i64 0]) ∧ w = w') := fun w => by
    obtain ⟨y, hy⟩ : ∃ y, y = infR := ⟨_, rfl⟩
    rw [← hy] at HI hz ⊢
    clear hy
    go_enter Try.func49, Try.ntmps49
    go_wp2_with fail
    refine (HI.out _).mono ?_
    unfold BPost
    rintro e w' ⟨rfl, rfl⟩
    go_wp2
    go_ret2
    exact ⟨rfl, rfl⟩
  obtain ⟨y, hy⟩ : ∃ y, y = infR := ⟨_, rfl⟩
  rw [← hy] at HF ⊢
  clear hy HI hz
  go_enter Try.func42, Try.ntmps42
  go_wp2_with fail
  refine (HF.out _).mono ?_
  rintro e w' ⟨rfl, rfl⟩
  go_wp2
  go_ret2
  exact ⟨rfl, rfl⟩
end Go.Proofs.Ytkddmiamdpbgiaa
