/- Floats: a product, a difference, a fraction and its exponent, in words. No program in sight. -/
import Derived.Test.YtndeolcamgnmdaaFltBits
namespace Go.Proofs.Ytndeolcamgnmdaa
open Ieee Go.RowKit
theorem fval_inj {r s : Nat} (h : fval r = fval s) : r = s := by
  rcases Nat.lt_trichotomy r s with h1 | h1 | h1
  · have := f_succ_le r s h1; omega
  · exact h1
  · have := f_succ_le s r h1; omega
theorem fmag_pos {r : Nat} (h : 0 < r) : fmag r ≠ 0 := by
  have hb := B52_pos
  rcases f_split r with ⟨h1, h2, h3⟩ | ⟨h1, h2, h3, h4, _, _⟩ <;> omega
theorem f_norm {e m : Nat} (h1 : B52 ≤ m) (h2 : m < 2 * B52) : fexp (e * B52 + m) = e ∧ fmag (e * B52 + m) = m ∧ fval (e * B52 + m) = m * 2 ^ e ∧ (e * B52 + m) / B52 = e + 1 ∧ (e * B52 + m) % B52 = m - B52 := by
  have hb := B52_pos
  have h0 : ¬ (e * B52 + m < B52) := by omega
  obtain ⟨t, ht⟩ : ∃ t, m = B52 + t := ⟨m - B52, by omega⟩
  have hd : (e * B52 + m) / B52 = e + 1 := by
    rw [ht, ← Nat.add_assoc, ← Nat.succ_mul, Nat.mul_comm, Nat.mul_add_div hb, Nat.div_eq_of_lt (by omega), Nat.add_zero]
  have hm : (e * B52 + m) % B52 = m - B52 := by
    rw [ht, ← Nat.add_assoc, ← Nat.succ_mul, Nat.mul_comm, Nat.mul_add_mod, Nat.mod_eq_of_lt (by omega)]
    omega
  have e1 : fexp (e * B52 + m) = e := by unfold fexp; rw [if_neg h0, hd]; omega
  have e2 : fmag (e * B52 + m) = m := by unfold fmag; rw [if_neg h0, hm]; omega
  exact ⟨e1, e2, by unfold fval; rw [e1, e2], hd, hm⟩
theorem norm_lt {e m : Nat} (h2 : m < 2 * B52) (he : e ≤ 2045) : e * B52 + m < infR := by
  have h3 := infR_eq
  have h4 : e * B52 ≤ 2045 * B52 := Nat.mul_le_mul_right _ he
  omega
theorem fexp_le {r : Nat} (h : r < infR) : fexp r ≤ 2045 := by
  have h3 := infR_eq
  rcases f_split r with ⟨h1, h2, h4⟩ | ⟨h1, h2, h4, h5, _, _⟩
  · omega
  · rcases Nat.lt_or_ge 2045 (fexp r) with hlt | hge
    · have := Nat.mul_le_mul_right B52 (show 2046 ≤ fexp r from hlt)
      omega
    · exact hge
theorem mul_pos {a b : Nat} (ha : a < infR) (hb : b < infR) (ha0 : 0 < a) (hb0 : 0 < b) : double.mul a b = some (rungOf (fmag a * fmag b) (-1074 + (fexp a : Nat) + (-1074 + (fexp b : Nat)))) := by
  unfold Format.mul
  rw [read_pos ha, read_pos hb]
  simp only [Datum.product, Option.map_some, Format.write]
  rw [nearest_eq _ _ _ (Nat.mul_ne_zero (fmag_pos ha0) (fmag_pos hb0)), word_fw, Bool.xor_self, fw_false]
theorem mul_val {a b s u : Nat} (ha : a < infR) (hb : b < infR) (ha0 : 0 < a) (hb0 : 0 < b) (hs0 : 0 < s) (hs : s < infR) (hu : fmag a * fmag b = fval s * 2 ^ u) (hp : fexp a + fexp b + u = 1074) : double.mul a b = some s := by
  rw [mul_pos ha hb ha0 hb0, hu, rung_scale _ _ _ (Nat.ne_of_gt (fval_pos hs0))]
  rw [show (-1074 + (fexp a : Int) + (-1074 + (fexp b : Int)) + (u : Int)) = -1074 by omega, rung_val hs0 hs]
theorem f_gap {r : Nat} (h : 0 < r) : fval r ≤ fval (r - 1) + 2 ^ fexp r := by
  have hb := B52_pos
  rcases f_split r with ⟨h1, h2, h3⟩ | ⟨h1, h2, h3, h4, _, _⟩
  · have e1 : fval r = r := by unfold fval; rw [h2, h3]; simp
    have e2 : fval (r - 1) = r - 1 := by unfold fval fmag fexp; rw [if_pos (by omega), if_pos (by omega)]; simp
    have : 1 ≤ 2 ^ fexp r := Nat.pow_pos (by omega)
    omega
  · rcases Nat.lt_or_ge B52 (fmag r) with hm | hm
    · have e : r - 1 = fexp r * B52 + (fmag r - 1) := by omega
      obtain ⟨_, _, e3, _, _⟩ := f_norm (e := fexp r) (m := fmag r - 1) (by omega) (by omega)
      rw [e, e3]
      unfold fval
      rw [← Nat.succ_mul]
      exact Nat.mul_le_mul_right _ (by omega)
    · have hm2 : fmag r = B52 := by omega
      cases he : fexp r with
      | zero =>
        have e : r - 1 = B52 - 1 := by rw [he] at h4; omega
        have e2 : fval (r - 1) = r - 1 := by unfold fval fmag fexp; rw [if_pos (by omega), if_pos (by omega)]; simp
        unfold fval at *
        rw [he, hm2]
        simp at e2 ⊢
        omega
      | succ k =>
        have e : r - 1 = k * B52 + (2 * B52 - 1) := by rw [he, Nat.succ_mul] at h4; omega
        obtain ⟨_, _, e3, _, _⟩ := f_norm (e := k) (m := 2 * B52 - 1) (by omega) (by omega)
        rw [e, e3]
        unfold fval
        rw [he, hm2, Nat.pow_succ]
        have h5 : B52 * (2 ^ k * 2) = 2 * B52 * 2 ^ k := by rw [← Nat.mul_assoc, Nat.mul_comm (B52 * _) 2, Nat.mul_assoc]
        have h6 : 2 * B52 * 2 ^ k ≤ (2 * B52 - 1) * 2 ^ k + 2 ^ k := by
          rw [← Nat.succ_mul]
          exact Nat.mul_le_mul_right _ (by omega)
        omega
theorem sub_fw {r s : Nat} (hr : r < infR) (hs : s ≤ r) : ∃ d, double.sub r s = some d ∧ d < infR ∧ (0 < s → 2 ^ fexp r ≤ fval s → d < r) := by
  have hi : 0 < infR := by decide
  unfold Format.sub
  rw [read_pos hr, read_pos (Nat.lt_of_le_of_lt hs hr)]
  simp only [Datum.opposite, Datum.sum, Option.map_some, Format.write, Bool.not_false]
  obtain ⟨m, hm⟩ : ∃ m, m = min (fexp r) (fexp s) := ⟨_, rfl⟩
  have e1 : (-1074 + (fexp r : Int) - min (-1074 + (fexp r : Int)) (-1074 + (fexp s : Int))).toNat = fexp r - m := by omega
  have e2 : (-1074 + (fexp s : Int) - min (-1074 + (fexp r : Int)) (-1074 + (fexp s : Int))).toNat = fexp s - m := by omega
  have e3 : min (-1074 + (fexp r : Int)) (-1074 + (fexp s : Int)) = -1074 + (m : Int) := by omega
  rw [e1, e2, e3]
  have hle := fval_le hs
  have v1 : fval r = fmag r * 2 ^ (fexp r - m) * 2 ^ m := by unfold fval; rw [Nat.mul_assoc, ← Nat.pow_add]; congr 2; omega
  have v2 : fval s = fmag s * 2 ^ (fexp s - m) * 2 ^ m := by unfold fval; rw [Nat.mul_assoc, ← Nat.pow_add]; congr 2; omega
  have hp : 0 < 2 ^ m := Nat.pow_pos (by omega)
  unfold Ieee.signed
  simp only [Nat.shiftLeft_eq, if_true, Bool.false_eq_true, if_false]
  obtain ⟨a, ha⟩ : ∃ a, a = fmag r * 2 ^ (fexp r - m) := ⟨_, rfl⟩
  obtain ⟨b, hb⟩ : ∃ b, b = fmag s * 2 ^ (fexp s - m) := ⟨_, rfl⟩
  rw [← ha] at v1 ⊢
  rw [← hb] at v2 ⊢
  have hab : b ≤ a := by
    rw [v1, v2] at hle
    exact Nat.le_of_mul_le_mul_right hle hp
  obtain ⟨t, ht⟩ : ∃ t, a = b + t := ⟨a - b, by omega⟩
  have et : (a : Int) + -(b : Int) = (t : Int) := by omega
  rw [et]
  by_cases h0 : t = 0
  · subst h0
    refine ⟨0, ?_, hi, fun hs0 hg => ?_⟩
    · simp [Format.nearest, Format.word]
    · omega
  · have hneg : (if (t : Int) = 0 then false && true else decide ((t : Int) < 0)) = false := by
      rw [if_neg (by omega)]; simp
    rw [hneg, Int.natAbs_natCast, nearest_eq _ _ _ h0, word_fw, fw_false, ← rung_scale t m _ h0]
    have hN : t * 2 ^ m + fval s = fval r := by rw [v1, v2, ht, Nat.add_mul]; omega
    have hN0 : 0 < t * 2 ^ m := Nat.mul_pos (by omega) hp
    have hle2 : rungOf (t * 2 ^ m) (-1074) ≤ r := rung_le hN0 hr (by omega)
    refine ⟨_, rfl, by omega, fun hs0 hg => ?_⟩
    have hr0 : 0 < r := by omega
    have hgap := f_gap hr0
    have := rung_le (r := r - 1) hN0 (by omega) (by omega)
    omega
/-! The fraction and the exponent. -/
def flog (y : Nat) : Nat := (fval y).log2
def fsig (y : Nat) : Nat := if y < B52 then y * 2 ^ (52 - flog y) else fmag y
theorem fsig_spec {y : Nat} (h : 0 < y) : B52 ≤ fsig y ∧ fsig y < 2 * B52 ∧ fval y * B52 = fsig y * 2 ^ flog y ∧ (B52 ≤ y → flog y = 52 + fexp y ∧ fsig y = fmag y) ∧ (y < B52 → flog y < 52 ∧ fval y = y) := by
  have hb := B52_pos
  have hb2 := B52_two
  rcases f_split y with ⟨h1, h2, h3⟩ | ⟨h1, h2, h3, h4, _, _⟩
  · have e1 : fval y = y := by unfold fval; rw [h2, h3]; simp
    have hl : flog y < 52 := by
      unfold flog; rw [e1]
      exact (Nat.log2_lt (by omega)).2 (by omega)
    have hy0 : y ≠ 0 := by omega
    have l1 : 2 ^ flog y ≤ y := by unfold flog; rw [e1]; exact Nat.log2_self_le hy0
    have l2 : y < 2 ^ (flog y + 1) := by unfold flog; rw [e1]; exact Nat.lt_log2_self
    have es : fsig y = y * 2 ^ (52 - flog y) := by unfold fsig; rw [if_pos h1]
    have p1 : B52 = 2 ^ flog y * 2 ^ (52 - flog y) := by rw [hb2, ← Nat.pow_add]; congr 1; omega
    have p2 : 2 * B52 = 2 ^ (flog y + 1) * 2 ^ (52 - flog y) := by rw [p1, Nat.pow_succ, Nat.mul_comm (2 ^ flog y) 2, Nat.mul_assoc]
    have hp : 0 < 2 ^ (52 - flog y) := Nat.pow_pos (by omega)
    refine ⟨?_, ?_, ?_, fun h => by omega, fun _ => ⟨hl, e1⟩⟩
    · rw [es, p1]; exact Nat.mul_le_mul_right _ l1
    · rw [es, p2]; exact Nat.mul_lt_mul_of_pos_right l2 hp
    · rw [es, e1, Nat.mul_assoc, ← Nat.pow_add, hb2]; congr 2; omega
  · have hm : fmag y ≠ 0 := by omega
    have hl : flog y = 52 + fexp y := by
      unfold flog fval
      rw [log2_mul_pow _ _ hm, log2_B h2 h3]
    have es : fsig y = fmag y := by unfold fsig; rw [if_neg (by omega)]
    refine ⟨by omega, by omega, ?_, fun _ => ⟨hl, es⟩, fun h => by omega⟩
    rw [es, hl, Nat.pow_add, hb2]
    unfold fval
    rw [Nat.mul_assoc, Nat.mul_comm (2 ^ fexp y)]
/-- The normal word that normalize gives, and its exponent. -/
theorem norm_word {y : Nat} (h : y < infR) (h0 : 0 < y) (hy : y < B52) : double.mul y 4841369599423283200 = some (flog y * B52 + fsig y) ∧ flog y * B52 + fsig y < infR := by
  obtain ⟨s1, s2, s3, _, s5⟩ := fsig_spec h0
  obtain ⟨l1, l2⟩ := s5 hy
  have hlt : flog y * B52 + fsig y < infR := norm_lt s2 (by omega)
  have e : (4841369599423283200 : Nat) = 1074 * B52 + B52 := by decide
  obtain ⟨n1, n2, n3, _, _⟩ := f_norm (e := 1074) (m := B52) (Nat.le_refl _) (by have := B52_pos; omega)
  obtain ⟨m1, m2, m3, _, _⟩ := f_norm (e := flog y) (m := fsig y) s1 s2
  have hb := B52_pos
  have hy1 : fmag y = y ∧ fexp y = 0 := by
    rcases f_split y with ⟨_, h2, h3⟩ | ⟨h1, _⟩
    · exact ⟨h2, h3⟩
    · omega
  rw [e]
  refine ⟨mul_val (u := 0) h (norm_lt (by omega) (by omega)) h0 (by omega) (by omega) hlt ?_ ?_, hlt⟩
  · rw [hy1.1, n2, m3, ← s3, l2, Nat.pow_zero, Nat.mul_one]
  · rw [hy1.2, n1]
/-- What ldexp ends in, a normal result. -/
theorem ldexp_one {q : Nat} (h : q < infR) (h0 : 0 < q) : double.mul 4607182418800017408 q = some q := by
  have e : (4607182418800017408 : Nat) = 1022 * B52 + B52 := by decide
  have hb := B52_pos
  obtain ⟨n1, n2, n3, _, _⟩ := f_norm (e := 1022) (m := B52) (Nat.le_refl _) (by omega)
  have hlt : 1022 * B52 + B52 < infR := norm_lt (by omega) (by omega)
  rw [e, mul_pos hlt h (by omega) h0, n1, n2, Nat.mul_comm B52, B52_two, rung_scale _ _ _ (fmag_pos h0)]
  rw [show (-1074 + ((1022 : Nat) : Int) + (-1074 + (fexp q : Int)) + ((52 : Nat) : Int)) = -1074 + (fexp q : Int) by omega, rung_self h0 h]
theorem ldexp_norm {y s k : Nat} (h0 : 0 < y) (hs : s < infR) (hv : fval s = fval y * 2 ^ k) (hk : 52 ≤ flog y + k) : s = (flog y + k - 52) * B52 + fsig y ∧ flog y + k ≤ 2097 := by
  obtain ⟨s1, s2, s3, _, _⟩ := fsig_spec h0
  obtain ⟨_, _, m3, _, _⟩ := f_norm (e := flog y + k - 52) (m := fsig y) s1 s2
  have hb := B52_pos
  have e : s = (flog y + k - 52) * B52 + fsig y := by
    apply fval_inj
    rw [m3, hv]
    have h1 : fval y * 2 ^ k * B52 = fsig y * 2 ^ (flog y + k - 52) * B52 := by
      rw [Nat.mul_assoc, Nat.mul_comm (2 ^ k), ← Nat.mul_assoc, s3, Nat.mul_assoc, ← Nat.pow_add, B52_two, Nat.mul_assoc, ← Nat.pow_add]
      congr 2; omega
    exact Nat.eq_of_mul_eq_mul_right hb h1
  refine ⟨e, ?_⟩
  have h3 := infR_eq
  rcases Nat.lt_or_ge 2045 (flog y + k - 52) with hlt | hge
  · have := Nat.mul_le_mul_right B52 (show 2046 ≤ flog y + k - 52 from hlt)
    omega
  · omega
theorem ldexp_den {y s k : Nat} (h0 : 0 < y) (hs : s < infR) (hv : fval s = fval y * 2 ^ k) (hk : flog y + k < 52) : double.mul 4368491638549381120 ((flog y + k + 1) * B52 + fsig y) = some s ∧ 0 < s := by
  obtain ⟨s1, s2, s3, _, _⟩ := fsig_spec h0
  obtain ⟨m1, m2, m3, _, _⟩ := f_norm (e := flog y + k + 1) (m := fsig y) s1 s2
  have hb := B52_pos
  have hs0 : 0 < s := by
    rcases Nat.eq_zero_or_pos s with h | h
    · exfalso
      rw [h, fval_zero] at hv
      have := Nat.mul_pos (fval_pos h0) (Nat.pow_pos (n := k) (show 0 < 2 by omega))
      omega
    · exact h
  have e : (4368491638549381120 : Nat) = 969 * B52 + B52 := by decide
  obtain ⟨n1, n2, n3, _, _⟩ := f_norm (e := 969) (m := B52) (Nat.le_refl _) (by omega)
  refine ⟨?_, hs0⟩
  rw [e]
  refine mul_val (u := 104 - (flog y + k)) (norm_lt (by omega) (by omega)) (norm_lt s2 (by omega)) (by omega) (by omega) hs0 hs ?_ ?_
  · rw [n2, m2, hv]
    have h1 : B52 * fsig y * 2 ^ (flog y + k) = fval y * 2 ^ k * 2 ^ (104 - (flog y + k)) * 2 ^ (flog y + k) := by
      have a : fsig y * 2 ^ (flog y + k) = fval y * B52 * 2 ^ k := by rw [Nat.pow_add, ← Nat.mul_assoc, ← s3]
      have p104 : (2 : Nat) ^ 104 = B52 * B52 := by rw [B52_two, ← Nat.pow_add]
      rw [Nat.mul_assoc (fval y * 2 ^ k), ← Nat.pow_add, show 104 - (flog y + k) + (flog y + k) = 104 by omega, p104, Nat.mul_assoc B52, a]
      generalize fval y = V
      generalize 2 ^ k = P
      generalize B52 = B
      ac_rfl
    exact Nat.eq_of_mul_eq_mul_right (Nat.pow_pos (by omega)) h1
  · rw [n1, m1]; omega
/-- A step of the remainder: what is taken away. -/
theorem mod_step {r y : Nat} (hr : r < infR) (h0 : 0 < y) (hy : y ≤ r) : ∃ k s : Nat, (flog r : Int) - (if fsig r < fsig y then 1 else 0) - flog y = k ∧ k ≤ 2100 ∧ s ≤ r ∧ 0 < s ∧ fval s = fval y * 2 ^ k ∧ 2 ^ fexp r ≤ fval s := by
  have hr0 : 0 < r := by omega
  have hb := B52_pos
  have hb2 := B52_two
  obtain ⟨s1, s2, s3, s4, s5⟩ := fsig_spec h0
  obtain ⟨t1, t2, t3, t4, t5⟩ := fsig_spec hr0
  have hv := fval_le hy
  have hv2 : fsig y * 2 ^ flog y ≤ fsig r * 2 ^ flog r := by rw [← s3, ← t3]; exact Nat.mul_le_mul_right _ hv
  have hlog : flog y ≤ flog r := by
    rcases Nat.lt_or_ge (flog r) (flog y) with hlt | hge
    · exfalso
      have h1 : 2 ^ (flog r + 1) ≤ 2 ^ flog y := Nat.pow_le_pow_right (by omega) hlt
      have h2 := Nat.mul_le_mul s1 h1
      have h3 : fsig r * 2 ^ flog r < 2 * B52 * 2 ^ flog r := Nat.mul_lt_mul_of_pos_right t2 (Nat.pow_pos (by omega))
      rw [Nat.pow_succ, ← Nat.mul_assoc, Nat.mul_comm (B52 * _) 2, ← Nat.mul_assoc] at h2
      omega
    · exact hge
  have hlr : flog r ≤ 2097 := by
    have := fexp_le hr
    rcases Nat.lt_or_ge r B52 with h | h
    · have := (t5 h).1; omega
    · have := (t4 h).1; omega
  have main : ∀ k : Nat, flog y + k ≤ flog r → fsig y * 2 ^ (flog y + k) ≤ fsig r * 2 ^ flog r → flog r ≤ flog y + k + 1 → ∃ s, s ≤ r ∧ 0 < s ∧ fval s = fval y * 2 ^ k ∧ 2 ^ fexp r ≤ fval s := fun k hk hle hlow => by
    have hval : fval y * 2 ^ k * B52 = fsig y * 2 ^ (flog y + k) := by
      rw [Nat.mul_assoc, Nat.mul_comm (2 ^ k), ← Nat.mul_assoc, s3, Nat.mul_assoc, ← Nat.pow_add]
    have hler : fval y * 2 ^ k ≤ fval r := by
      refine Nat.le_of_mul_le_mul_right (c := B52) ?_ hb
      rw [hval, t3]; exact hle
    obtain ⟨s, hs⟩ : ∃ s, fval s = fval y * 2 ^ k := by
      rcases Nat.lt_or_ge (flog y + k) 52 with h | h
      · refine ⟨fval y * 2 ^ k, ?_⟩
        have h1 : fval y * 2 ^ k < B52 := by
          refine Nat.lt_of_mul_lt_mul_right (a := B52) ?_
          rw [hval]
          have h2 : 2 ^ (flog y + k + 1) ≤ 2 ^ 52 := Nat.pow_le_pow_right (by omega) (by omega)
          have h3 : fsig y * 2 ^ (flog y + k) < 2 * B52 * 2 ^ (flog y + k) := Nat.mul_lt_mul_of_pos_right s2 (Nat.pow_pos (by omega))
          have h4 : 2 * B52 * 2 ^ (flog y + k) = B52 * 2 ^ (flog y + k + 1) := by rw [Nat.pow_succ, Nat.mul_comm 2 B52, Nat.mul_assoc, Nat.mul_comm 2]
          have h5 := Nat.mul_le_mul_left B52 h2
          rw [← hb2] at h5
          omega
        show fmag _ * 2 ^ fexp _ = _
        unfold fmag fexp
        rw [if_pos h1, if_pos h1]; simp
      · obtain ⟨_, _, m3, _, _⟩ := f_norm (e := flog y + k - 52) (m := fsig y) s1 s2
        refine ⟨(flog y + k - 52) * B52 + fsig y, ?_⟩
        rw [m3]
        refine Nat.eq_of_mul_eq_mul_right hb ?_
        rw [hval, hb2, Nat.mul_assoc, ← Nat.pow_add]
        congr 2; omega
    have hsr : s ≤ r := by
      rcases Nat.lt_or_ge r s with h | h
      · have := f_succ_le r s h; omega
      · exact h
    have hs0 : 0 < s := by
      rcases Nat.eq_zero_or_pos s with h | h
      · exfalso
        rw [h, fval_zero] at hs
        have := Nat.mul_pos (fval_pos h0) (Nat.pow_pos (n := k) (show 0 < 2 by omega))
        omega
      · exact h
    refine ⟨s, hsr, hs0, hs, ?_⟩
    rcases Nat.lt_or_ge r B52 with h | h
    · have : fexp r = 0 := by unfold fexp; rw [if_pos h]
      rw [this, Nat.pow_zero]
      exact fval_pos hs0
    · have hl := (t4 h).1
      rw [hs]
      refine Nat.le_of_mul_le_mul_right (c := B52) ?_ hb
      rw [hval, hb2, ← Nat.pow_add]
      have h1 : 2 ^ 52 * 2 ^ (flog y + k) ≤ fsig y * 2 ^ (flog y + k) := by rw [← hb2]; exact Nat.mul_le_mul_right _ s1
      refine Nat.le_trans ?_ h1
      rw [← Nat.pow_add]
      exact Nat.pow_le_pow_right (by omega) (by omega)
  by_cases hc : fsig r < fsig y
  · have hlt : flog y < flog r := by
      rcases Nat.lt_or_ge (flog y) (flog r) with h | h
      · exact h
      · exfalso
        have e : flog y = flog r := by omega
        rw [e] at hv2
        have := Nat.mul_lt_mul_of_pos_right hc (Nat.pow_pos (n := flog r) (show 0 < 2 by omega))
        omega
    obtain ⟨s, h1, h2, h3, h4⟩ := main (flog r - 1 - flog y) (by omega) (by
      rw [show flog y + (flog r - 1 - flog y) = flog r - 1 by omega]
      have h1 : fsig y * 2 ^ (flog r - 1) ≤ 2 * fsig r * 2 ^ (flog r - 1) := Nat.mul_le_mul_right _ (by omega)
      have h2 : 2 * fsig r * 2 ^ (flog r - 1) = fsig r * 2 ^ flog r := by
        rw [Nat.mul_comm 2, Nat.mul_assoc, Nat.mul_comm 2, ← Nat.pow_succ]; congr 2; omega
      omega) (by omega)
    exact ⟨flog r - 1 - flog y, s, by rw [if_pos hc]; omega, by omega, h1, h2, h3, h4⟩
  · obtain ⟨s, h1, h2, h3, h4⟩ := main (flog r - flog y) (by omega) (by
      rw [show flog y + (flog r - flog y) = flog r by omega]
      exact Nat.mul_le_mul_right _ (by omega)) (by omega)
    exact ⟨flog r - flog y, s, by rw [if_neg hc]; omega, by omega, h1, h2, h3, h4⟩
end Go.Proofs.Ytndeolcamgnmdaa
