/- Two words divided by one, by halves. -/
import Derived.Test.YtndeolcamgnmdaaGreatDoorDivNum
import Derived.Test.YtndeolcamgnmdaaGreatDoorLshVU
import Derived.Test.YtndeolcamgnmdaaGreatDoorShelfM
import Derived.Deep.DeepCutAuto
set_option linter.unusedVariables false
set_option linter.unusedSimpArgs false
set_option linter.unnecessarySimpa false
namespace Go.Proofs.YtndeolcamgnmdaaGreatDoor
open Go.RowKit
def QRPost (q r : Nat) (w : World) (e : Ending) (w' : World) : Prop := e = .returned (.tuple #[.int .u64 (q : Int), .int .u64 (r : Int)]) ∧ w = w'
theorem div64_zero (lo y : Nat) (hy : 0 < y) (hlo : lo < W64) (w : World) : Calls Tryz.prog 101 #[.int .u64 0, .int .u64 (lo : Int), .int .u64 (y : Int)] w fun e w' => e = .returned (.tuple #[.int .u64 ((lo / y : Nat) : Int), .int .u64 ((lo % y : Nat) : Int)]) ∧ ∃ n, w' = w.drewN n := by
  have h0 : ((y : Int) == 0) = false := by rw [beq_eq_false_iff_ne]; omega
  have hd : decide ((y : Int) ≤ 0) = false := by simp; omega
  have hy0 : (y : Int) ≠ 0 := by omega
  have hd2 : decide (y = 0) = false := by simp; omega
  obtain ⟨q, hq⟩ : ∃ q : Nat, (lo : Int) / (y : Int) = (q : Int) ∧ q = lo / y := ⟨lo / y, by simp, rfl⟩
  obtain ⟨r, hr⟩ : ∃ r : Nat, (lo : Int) % (y : Int) = (r : Int) ∧ r = lo % y := ⟨lo % y, by simp, rfl⟩
  rw [← hq.2, ← hr.2]
  have hq1 := hq.1
  have hr1 := hr.1
  have hwq : IntKind.u64.wrap (q : Int) = (q : Int) := by
    have h1 := Nat.div_le_self lo y
    have h2 := hq.2
    unfold W64 at hlo
    exact wrap64_small _ (by omega) (by omega)
  have HR1 := Lib.hid hr1
  clear hq hr hr1
  go_enter Tryz.func101, Tryz.ntmps101
  go_wp2_with fail
  go_quiet (fail)
  go_wp2
  go_ret2
  refine ⟨?_, _, rfl⟩
  rw [← HR1.out]
  rfl
theorem and_mask (x : Nat) (h : x < 18446744073709551616) : bits .and .u64 (x : Int) 4294967295 = ((x % 4294967296 : Nat) : Int) := by
  have h1 := u64_and_nat x 4294967295 h (by omega)
  rw [show ((4294967295 : Nat) : Int) = 4294967295 from rfl] at h1
  rw [h1, show (4294967295 : Nat) = 2 ^ 32 - 1 by decide, Nat.and_two_pow_sub_one_eq_mod]
theorem bitLen_big (y : Nat) (h : y < W64) (h2 : 9223372036854775808 ≤ y) : Lib.bitLen y = 64 := by
  have h1 := bitLen_64 y h
  have h3 : ¬ Lib.bitLen y ≤ 63 := by
    rw [bitLen_le y 63 h]
    omega
  omega
/-- What a half's loop keeps. -/
def HalfRel (b y1 y0 u u0 q r : Nat) : Prop := u = q * y1 + r ∧ (u * b + u0) / (y1 * b + y0) ≤ q ∧ r < b ∧ q ≤ b + 1
theorem half_start (b y1 y0 u u0 : Nat) (hu : u < y1 * b + y0) (hu0 : u0 < b) (hy0 : y0 < b) (hy1 : b ≤ 2 * y1) (hb : 2 ≤ b) (hyb : y1 < b) : HalfRel b y1 y0 u u0 (u / y1) (u % y1) := by
  have h0 : 0 < y1 := by omega
  refine ⟨by rw [Nat.mul_comm]; exact (Nat.div_add_mod u y1).symm, ?_, by have := Nat.mod_lt u h0; omega, half_max b y1 y0 u hu hy0 hy1⟩
  have hy : 0 < y1 * b + y0 := by have := Nat.mul_pos h0 (show 0 < b by omega); omega
  have h1 : (u * b + u0) / (y1 * b + y0) < u / y1 + 1 := by
    rw [Nat.div_lt_iff_lt_mul hy]
    have h2 : u < (u / y1 + 1) * y1 := by
      have := Nat.div_add_mod u y1
      have := Nat.mod_lt u h0
      grind
    have h3 : (u + 1) * b ≤ (u / y1 + 1) * y1 * b := Nat.mul_le_mul_right _ h2
    grind
  omega
theorem half_lt (u v y : Nat) (hu : u < y) (hv : v < 4294967296) : (u * 4294967296 + v) / y < 4294967296 := by
  rw [Nat.div_lt_iff_lt_mul (by omega)]
  have h : (u + 1) * 4294967296 ≤ y * 4294967296 := Nat.mul_le_mul_right _ hu
  omega
/-- What is left of a half, as the words reckon it. -/
theorem wrap_rest (u v q y r : Nat) (h : u * 4294967296 + v = q * y + r) (hr : r < 18446744073709551616) :
    IntKind.u64.wrap (IntKind.u64.wrap (IntKind.u64.wrap ((u : Int) * 4294967296) + (v : Int)) - IntKind.u64.wrap ((q : Int) * (y : Int))) = (r : Int) := by
  have e : (q : Int) * (y : Int) = ((q * y : Nat) : Int) := by simp
  rw [e]
  generalize q * y = p at *
  rw [IntKind.wrap_u64, IntKind.wrap_u64, IntKind.wrap_u64, IntKind.wrap_u64]
  omega
set_option maxRecDepth 20000 in
set_option maxHeartbeats 4000000 in
theorem div64_norm (hi lo y : Nat) (hy : 9223372036854775808 ≤ y) (hy64 : y < W64) (hi0 : 0 < hi) (hhy : hi < y) (hlo : lo < W64) (w : World) :
    Calls Tryz.prog 101 #[.int .u64 (hi : Int), .int .u64 (lo : Int), .int .u64 (y : Int)] w (QRPost ((hi * W64 + lo) / y) ((hi * W64 + lo) % y) w) := by
  have HC := Lib.hid (Tryz.bits_LeadingZeros64 (y : Int) w (by omega) (by unfold W64 at hy64; omega))
  rw [Int.toNat_natCast, bitLen_big y hy64 hy, show ((64 : Int) - ((64 : Nat) : Int)) = 0 from rfl] at HC
  have h0 : ((y : Int) == 0) = false := by rw [beq_eq_false_iff_ne]; omega
  have h1 : ((hi : Int) == 0) = false := by rw [beq_eq_false_iff_ne]; omega
  have hd : decide ((y : Int) ≤ (hi : Int)) = false := by simp; omega
  have hd2 : decide (y ≤ hi) = false := by simp; omega
  obtain ⟨y1, hy1⟩ : ∃ y1 : Nat, (y : Int) / 4294967296 = (y1 : Int) ∧ y1 = y / 4294967296 := ⟨y / 4294967296, by omega, rfl⟩
  obtain ⟨y0, hy0⟩ : ∃ y0, y0 = y % 4294967296 := ⟨_, rfl⟩
  obtain ⟨u1, hu1⟩ : ∃ u1 : Nat, (lo : Int) / 4294967296 = (u1 : Int) ∧ u1 = lo / 4294967296 := ⟨lo / 4294967296, by omega, rfl⟩
  obtain ⟨u0, hu0⟩ : ∃ u0, u0 = lo % 4294967296 := ⟨_, rfl⟩
  have hyj : y = y1 * 4294967296 + y0 := by omega
  have hlj : lo = u1 * 4294967296 + u0 := by omega
  have hy0b : y0 < 4294967296 := by omega
  have hu0b : u0 < 4294967296 := by omega
  unfold W64 at hy64 hlo
  have hu1b : u1 < 4294967296 := by omega
  have hy1b : 2147483648 ≤ y1 ∧ y1 < 4294967296 := by omega
  have hay := and_mask y hy64
  have hal := and_mask lo hlo
  rw [← hy0] at hay
  rw [← hu0] at hal
  have hl64 : (lo : Int) / 18446744073709551616 = 0 := by omega
  have ho : bits .or .u64 (hi : Int) 0 = (hi : Int) := by
    have h2 := u64_or_nat hi 0 (by omega) (by omega)
    rw [show ((0 : Nat) : Int) = 0 from rfl, Nat.or_zero] at h2
    exact h2
  have hwy : IntKind.u64.wrap (y : Int) = (y : Int) := wrap64_small _ (by omega) (by omega)
  have hwl : IntKind.u64.wrap (lo : Int) = (lo : Int) := wrap64_small _ (by omega) (by omega)
  have hwh : IntKind.u64.wrap (hi : Int) = (hi : Int) := wrap64_small _ (by omega) (by omega)
  have hy1e := hy1.1
  have hu1e := hu1.1
  have HYJ := Lib.hid hyj
  have HLJ := Lib.hid hlj
  obtain ⟨y1b1, y1b2⟩ := hy1b
  have hy1z : ((y1 : Int) == 0) = false := by rw [beq_eq_false_iff_ne]; omega
  have hy1n : (y1 : Int) ≠ 0 := by omega
  have HS := Lib.hid (half_start 4294967296 y1 y0 hi u1 (by omega) hu1b hy0b (by omega) (by omega) y1b2)
  obtain ⟨q, hq⟩ : ∃ q : Nat, (hi : Int) / (y1 : Int) = (q : Int) ∧ q = hi / y1 := ⟨hi / y1, by simp, rfl⟩
  obtain ⟨r, hr⟩ : ∃ r, r = hi % y1 := ⟨_, rfl⟩
  rw [← hq.2, ← hr] at HS
  have hq1 := hq.1
  have hsub : (hi : Int) - (q : Int) * (y1 : Int) = (r : Int) := by
    have h3 := HS.out.1
    omega
  have hqb : q ≤ 4294967297 := HS.out.2.2.2
  have hpq : q * y1 ≤ hi := by have h3 := HS.out.1; omega
  have hwq : IntKind.u64.wrap (q : Int) = (q : Int) := wrap64_small _ (by omega) (by omega)
  have hwp : IntKind.u64.wrap ((q : Int) * (y1 : Int)) = (q : Int) * (y1 : Int) := by
    have e : (q : Int) * (y1 : Int) = ((q * y1 : Nat) : Int) := by simp
    rw [e]
    exact wrap64_small _ (by omega) (by omega)
  have hwr : IntKind.u64.wrap (r : Int) = (r : Int) := wrap64_small _ (by omega) (by have := HS.out.2.2.1; omega)
  clear hy1 hy0 hu1 hu0 hyj hlj hq hr hpq
  go_enter Tryz.func101, Tryz.ntmps101
  go_wp2_with fail
  refine HC.out.mono ?_
  rintro e w' ⟨rfl, rfl⟩
  go_wp2_with fail
  -- The walk.
  go_loop [15, 16] (fun qv rv => ∃ (qa ra : Nat), qv = .int .u64 (qa : Int) ∧ rv = .int .u64 (ra : Int) ∧ Hid (HalfRel 4294967296 y1 y0 hi u1 qa ra))
    (fun qv _ => (intOf qv).toNat)
  case atStart => exact ⟨q, r, rfl, rfl, HS.out⟩
  case round =>
    clear hq1 hsub hqb hwq hwp hwr HS
    obtain ⟨qa, ra, rfl, rfl, hrel⟩ := hrel
    obtain ⟨e1, e2, e3, e4⟩ := hrel.out
    have hm1 : qa * y0 ≤ 4294967297 * 4294967295 := Nat.mul_le_mul e4 (by omega)
    have hwm : IntKind.u64.wrap ((qa : Int) * (y0 : Int)) = ((qa * y0 : Nat) : Int) := by
      have e : (qa : Int) * (y0 : Int) = ((qa * y0 : Nat) : Int) := by simp
      rw [e]
      exact wrap64_small _ (by omega) (by omega)
    obtain ⟨m, hm⟩ : ∃ m, m = qa * y0 := ⟨_, rfl⟩
    rw [← hm] at hwm hm1
    obtain ⟨s, hs⟩ : ∃ s : Nat, (4294967296 : Int) * (ra : Int) = (s : Int) ∧ s = 4294967296 * ra := ⟨4294967296 * ra, by omega, rfl⟩
    have hs1 := hs.1
    have hws : IntKind.u64.wrap (s : Int) = (s : Int) := wrap64_small _ (by omega) (by omega)
    obtain ⟨k, hk⟩ : ∃ k : Nat, (s : Int) + (u1 : Int) = (k : Int) ∧ k = s + u1 := ⟨s + u1, by omega, rfl⟩
    have hk1 := hk.1
    have hwk : IntKind.u64.wrap (k : Int) = (k : Int) := wrap64_small _ (by omega) (by omega)
    have hwq : IntKind.u64.wrap (qa : Int) = (qa : Int) := wrap64_small _ (by omega) (by omega)
    by_cases hc : 4294967296 ≤ qa ∨ k < m
    · have hge := half_ge 4294967296 y1 y0 hi u1 qa ra (by rw [← HYJ.out]; exact hhy) hu1b e1 (by rw [hm, hk.2, hs.2] at hc; exact hc)
      have hq0 : 0 < qa := Nat.lt_of_le_of_lt (Nat.zero_le _) hge
      obtain ⟨qb, hq'⟩ : ∃ qb, qa = qb + 1 := ⟨qa - 1, by omega⟩
      have hqs : (qa : Int) - 1 = (qb : Int) := by omega
      have hwq' : IntKind.u64.wrap (qb : Int) = (qb : Int) := wrap64_small _ (by omega) (by omega)
      obtain ⟨rb, hr'⟩ : ∃ rb : Nat, (ra : Int) + (y1 : Int) = (rb : Int) ∧ rb = ra + y1 := ⟨ra + y1, by omega, rfl⟩
      have hr1 := hr'.1
      have hwr' : IntKind.u64.wrap (rb : Int) = (rb : Int) := wrap64_small _ (by omega) (by omega)
      have e1' : hi = qb * y1 + rb := by rw [hr'.2, e1, hq']; grind
      have HE := Lib.hid e1'
      have HQ' := Lib.hid hq'
      have HGE := Lib.hid hge
      have H4 := Lib.hid e4
      have hcb : (decide ((4294967296 : Int) ≤ (qa : Int)) = true ∧ decide (4294967296 ≤ qa) = true) ∨ (decide ((4294967296 : Int) ≤ (qa : Int)) = false ∧ decide (4294967296 ≤ qa) = false ∧ decide ((k : Int) < (m : Int)) = true ∧ decide (k < m) = true) := by
        rcases Nat.lt_or_ge qa 4294967296 with h5 | h5
        · right
          have h6 : k < m := by omega
          refine ⟨by simp; omega, by simp; omega, by simp; omega, by simp; omega⟩
        · left
          exact ⟨by simp; omega, by simp; omega⟩
      have hrb : (4294967296 ≤ rb ∧ decide ((4294967296 : Int) ≤ (rb : Int)) = true ∧ decide (4294967296 ≤ rb) = true) ∨ (rb < 4294967296 ∧ decide ((4294967296 : Int) ≤ (rb : Int)) = false ∧ decide (4294967296 ≤ rb) = false) := by
        rcases Nat.lt_or_ge rb 4294967296 with h5 | h5
        · right; exact ⟨h5, by simp; omega, by simp; omega⟩
        · left; exact ⟨h5, by simp; omega, by simp; omega⟩
      clear hrel e1 e2 hm hs hk hc hge hq' hr' e1' e4 hq0
      rcases hrb with ⟨hrb, d1, d2⟩ | ⟨hrb, d1, d2⟩
      · have HEND : Hid (qb = (hi * 4294967296 + u1) / y) := by
          unfold Hid
          have h5 := half_brk 4294967296 y1 y0 hi u1 qb rb (by have := HYJ.out; omega) hy0b HE.out (by have := HQ'.out; have := H4.out; omega) hrb
          have h6 := HGE.out
          have h7 := HQ'.out
          rw [← HYJ.out] at h5 h6
          omega
        clear hrb
        rcases hcb with ⟨b1, b2⟩ | ⟨b1, b2, b3, b4⟩
        · have HEND1 := Lib.hid HEND.out
          clear HEND
          obtain ⟨R1, hR1⟩ : ∃ R1, R1 = (hi * 4294967296 + u1) % y := ⟨_, rfl⟩
          have hR1y : R1 < y := by rw [hR1]; exact Nat.mod_lt _ (by omega)
          have hsum : hi * 4294967296 + u1 = qb * y + R1 := by rw [hR1, HEND1.out]; exact (Nat.div_add_mod' _ _).symm
          have hX := wrap_rest hi u1 qb y R1 hsum (by omega)
          have HS2 := Lib.hid (half_start 4294967296 y1 y0 R1 u0 (by have := HYJ.out; omega) hu0b hy0b (by omega) (by omega) y1b2)
          obtain ⟨q2, hq2⟩ : ∃ q2 : Nat, (R1 : Int) / (y1 : Int) = (q2 : Int) ∧ q2 = R1 / y1 := ⟨R1 / y1, by simp, rfl⟩
          obtain ⟨r2, hr2⟩ : ∃ r2, r2 = R1 % y1 := ⟨_, rfl⟩
          rw [← hq2.2, ← hr2] at HS2
          have hq21 := hq2.1
          have hsub2 : (R1 : Int) - (q2 : Int) * (y1 : Int) = (r2 : Int) := by
            have h3 := HS2.out.1
            have e : (q2 : Int) * (y1 : Int) = ((q2 * y1 : Nat) : Int) := by simp
            rw [e]; omega
          have hpq2 : q2 * y1 ≤ R1 := by have h3 := HS2.out.1; omega
          have hwq2 : IntKind.u64.wrap (q2 : Int) = (q2 : Int) := wrap64_small _ (by omega) (by have := HS2.out.2.2.2; omega)
          have hwp2 : IntKind.u64.wrap ((q2 : Int) * (y1 : Int)) = (q2 : Int) * (y1 : Int) := by
            have e : (q2 : Int) * (y1 : Int) = ((q2 * y1 : Nat) : Int) := by simp
            rw [e]
            exact wrap64_small _ (by omega) (by omega)
          have hwr2 : IntKind.u64.wrap (r2 : Int) = (r2 : Int) := wrap64_small _ (by omega) (by have := HS2.out.2.2.1; omega)
          have HR1 := Lib.hid hR1
          clear hR1 hsum hq2 hr2 hpq2
          go_wp2_with fail
          go_loop [18, 16] (fun qv rv => ∃ (qa2 ra2 : Nat), qv = .int .u64 (qa2 : Int) ∧ rv = .int .u64 (ra2 : Int) ∧ Hid (HalfRel 4294967296 y1 y0 R1 u0 qa2 ra2))
            (fun qv _ => (intOf qv).toNat)
          case atStart => exact ⟨q2, r2, rfl, rfl, HS2.out⟩
          case round =>
            clear hq21 hsub2 hwq2 hwp2 hwr2 HS2 hX
            obtain ⟨qa2, ra2, rfl, rfl, hrel⟩ := hrel
            obtain ⟨e1, e2, e3, e4⟩ := hrel.out
            have hm1 : qa2 * y0 ≤ 4294967297 * 4294967295 := Nat.mul_le_mul e4 (by omega)
            have hwm : IntKind.u64.wrap ((qa2 : Int) * (y0 : Int)) = ((qa2 * y0 : Nat) : Int) := by
              have e : (qa2 : Int) * (y0 : Int) = ((qa2 * y0 : Nat) : Int) := by simp
              rw [e]
              exact wrap64_small _ (by omega) (by omega)
            obtain ⟨m, hm⟩ : ∃ m, m = qa2 * y0 := ⟨_, rfl⟩
            rw [← hm] at hwm hm1
            obtain ⟨s, hs⟩ : ∃ s : Nat, (4294967296 : Int) * (ra2 : Int) = (s : Int) ∧ s = 4294967296 * ra2 := ⟨4294967296 * ra2, by omega, rfl⟩
            have hs1 := hs.1
            have hws : IntKind.u64.wrap (s : Int) = (s : Int) := wrap64_small _ (by omega) (by omega)
            obtain ⟨k, hk⟩ : ∃ k : Nat, (s : Int) + (u0 : Int) = (k : Int) ∧ k = s + u0 := ⟨s + u0, by omega, rfl⟩
            have hk1 := hk.1
            have hwk : IntKind.u64.wrap (k : Int) = (k : Int) := wrap64_small _ (by omega) (by omega)
            have hwq : IntKind.u64.wrap (qa2 : Int) = (qa2 : Int) := wrap64_small _ (by omega) (by omega)
            by_cases hc : 4294967296 ≤ qa2 ∨ k < m
            · have hge := half_ge 4294967296 y1 y0 R1 u0 qa2 ra2 (by rw [← HYJ.out]; exact hR1y) hu0b e1 (by rw [hm, hk.2, hs.2] at hc; exact hc)
              have hq0 : 0 < qa2 := Nat.lt_of_le_of_lt (Nat.zero_le _) hge
              obtain ⟨qb2, hq'⟩ : ∃ qb2, qa2 = qb2 + 1 := ⟨qa2 - 1, by omega⟩
              have hqs : (qa2 : Int) - 1 = (qb2 : Int) := by omega
              have hwq' : IntKind.u64.wrap (qb2 : Int) = (qb2 : Int) := wrap64_small _ (by omega) (by omega)
              obtain ⟨rb2, hr'⟩ : ∃ rb2 : Nat, (ra2 : Int) + (y1 : Int) = (rb2 : Int) ∧ rb2 = ra2 + y1 := ⟨ra2 + y1, by omega, rfl⟩
              have hr1 := hr'.1
              have hwr' : IntKind.u64.wrap (rb2 : Int) = (rb2 : Int) := wrap64_small _ (by omega) (by omega)
              have e1' : R1 = qb2 * y1 + rb2 := by rw [hr'.2, e1, hq']; grind
              have HE := Lib.hid e1'
              have HQ' := Lib.hid hq'
              have HGE := Lib.hid hge
              have H4 := Lib.hid e4
              have hcb : (decide ((4294967296 : Int) ≤ (qa2 : Int)) = true ∧ decide (4294967296 ≤ qa2) = true) ∨ (decide ((4294967296 : Int) ≤ (qa2 : Int)) = false ∧ decide (4294967296 ≤ qa2) = false ∧ decide ((k : Int) < (m : Int)) = true ∧ decide (k < m) = true) := by
                rcases Nat.lt_or_ge qa2 4294967296 with h5 | h5
                · right
                  have h6 : k < m := by omega
                  refine ⟨by simp; omega, by simp; omega, by simp; omega, by simp; omega⟩
                · left
                  exact ⟨by simp; omega, by simp; omega⟩
              have hrb : (4294967296 ≤ rb2 ∧ decide ((4294967296 : Int) ≤ (rb2 : Int)) = true ∧ decide (4294967296 ≤ rb2) = true) ∨ (rb2 < 4294967296 ∧ decide ((4294967296 : Int) ≤ (rb2 : Int)) = false ∧ decide (4294967296 ≤ rb2) = false) := by
                rcases Nat.lt_or_ge rb2 4294967296 with h5 | h5
                · right; exact ⟨h5, by simp; omega, by simp; omega⟩
                · left; exact ⟨h5, by simp; omega, by simp; omega⟩
              clear hrel e1 e2 hm hs hk hc hge hq' hr' e1' e4 hq0
              rcases hrb with ⟨hrb, d1, d2⟩ | ⟨hrb, d1, d2⟩
              · have HEND : Hid (qb2 = (R1 * 4294967296 + u0) / y) := by
                  unfold Hid
                  have h5 := half_brk 4294967296 y1 y0 R1 u0 qb2 rb2 (by have := HYJ.out; omega) hy0b HE.out (by have := HQ'.out; have := H4.out; omega) hrb
                  have h6 := HGE.out
                  have h7 := HQ'.out
                  rw [← HYJ.out] at h5 h6
                  omega
                clear hrb
                rcases hcb with ⟨b1, b2⟩ | ⟨b1, b2, b3, b4⟩
                · have HQ0 := Lib.hid HEND.out
                  have hj := div_join 4294967296 y hi u1 u0 qb R1 qb2 ((R1 * 4294967296 + u0) % y) (by rw [HEND1.out, HR1.out]; exact (Nat.div_add_mod' _ _).symm) (by rw [HQ0.out]; exact (Nat.div_add_mod' _ _).symm) (Nat.mod_lt _ (by omega))
                  rw [show (4294967296 : Nat) * 4294967296 = W64 by decide, ← HLJ.out] at hj
                  have hQ1b : qb < 4294967296 := by rw [HEND1.out]; exact half_lt hi u1 y hhy hu1b
                  have hq2b : qb2 < 4294967296 := by rw [HQ0.out]; exact half_lt R1 u0 y hR1y hu0b
                  have hw1 : IntKind.u64.wrap (IntKind.u64.wrap ((qb : Int) * 4294967296) + (qb2 : Int)) = ((qb * 4294967296 + qb2 : Nat) : Int) := by
                    rw [IntKind.wrap_u64, IntKind.wrap_u64]; omega
                  obtain ⟨R0, hR0⟩ : ∃ R0, R0 = (R1 * 4294967296 + u0) % y := ⟨_, rfl⟩
                  have hw2 : IntKind.u64.wrap (IntKind.u64.wrap (IntKind.u64.wrap ((R1 : Int) * 4294967296) + (u0 : Int)) - IntKind.u64.wrap ((qb2 : Int) * (y : Int))) = (R0 : Int) := by
                    have h9 : R1 * 4294967296 + u0 = qb2 * y + R0 := by rw [hR0, HQ0.out]; exact (Nat.div_add_mod' _ _).symm
                    exact wrap_rest R1 u0 qb2 y R0 h9 (by rw [hR0]; exact Nat.lt_trans (Nat.mod_lt _ (by omega)) hy64)
                  rw [← hR0] at hj
                  have HJ := Lib.hid hj
                  clear hj hR0 hQ1b hq2b
                  go_wp2
                  go_ret2
                  refine ⟨?_, rfl⟩
                  rw [HJ.out.1, HJ.out.2, ← hw2, Int.natCast_add, Int.natCast_mul]
                  rfl
                · have HQ0 := Lib.hid HEND.out
                  have hj := div_join 4294967296 y hi u1 u0 qb R1 qb2 ((R1 * 4294967296 + u0) % y) (by rw [HEND1.out, HR1.out]; exact (Nat.div_add_mod' _ _).symm) (by rw [HQ0.out]; exact (Nat.div_add_mod' _ _).symm) (Nat.mod_lt _ (by omega))
                  rw [show (4294967296 : Nat) * 4294967296 = W64 by decide, ← HLJ.out] at hj
                  have hQ1b : qb < 4294967296 := by rw [HEND1.out]; exact half_lt hi u1 y hhy hu1b
                  have hq2b : qb2 < 4294967296 := by rw [HQ0.out]; exact half_lt R1 u0 y hR1y hu0b
                  have hw1 : IntKind.u64.wrap (IntKind.u64.wrap ((qb : Int) * 4294967296) + (qb2 : Int)) = ((qb * 4294967296 + qb2 : Nat) : Int) := by
                    rw [IntKind.wrap_u64, IntKind.wrap_u64]; omega
                  obtain ⟨R0, hR0⟩ : ∃ R0, R0 = (R1 * 4294967296 + u0) % y := ⟨_, rfl⟩
                  have hw2 : IntKind.u64.wrap (IntKind.u64.wrap (IntKind.u64.wrap ((R1 : Int) * 4294967296) + (u0 : Int)) - IntKind.u64.wrap ((qb2 : Int) * (y : Int))) = (R0 : Int) := by
                    have h9 : R1 * 4294967296 + u0 = qb2 * y + R0 := by rw [hR0, HQ0.out]; exact (Nat.div_add_mod' _ _).symm
                    exact wrap_rest R1 u0 qb2 y R0 h9 (by rw [hR0]; exact Nat.lt_trans (Nat.mod_lt _ (by omega)) hy64)
                  rw [← hR0] at hj
                  have HJ := Lib.hid hj
                  clear hj hR0 hQ1b hq2b
                  go_wp2
                  go_ret2
                  refine ⟨?_, rfl⟩
                  rw [HJ.out.1, HJ.out.2, ← hw2, Int.natCast_add, Int.natCast_mul]
                  rfl
              · have HREL : Hid (HalfRel 4294967296 y1 y0 R1 u0 qb2 rb2) := by
                  have h6 := HGE.out
                  have h7 := HQ'.out
                  have h8 := H4.out
                  exact ⟨HE.out, by omega, hrb, by omega⟩
                clear hrb
                rcases hcb with ⟨b1, b2⟩ | ⟨b1, b2, b3, b4⟩
                all_goals
                  go_wp2
                  go_round
                  case rel => exact ⟨qb2, rb2, rfl, rfl, HREL.out⟩
                  case measure => have h7 := HQ'.out; simp [intOf]; omega
            · have HEND : Hid (qa2 = (R1 * 4294967296 + u0) / y) := by
                unfold Hid
                rw [hm, hk.2, hs.2] at hc
                have h5 := half_le 4294967296 y1 y0 R1 u0 qa2 ra2 (by have := HYJ.out; omega) e1 (by omega)
                rw [← HYJ.out] at h5 e2
                omega
              have b1 : decide ((4294967296 : Int) ≤ (qa2 : Int)) = false := by simp; omega
              have b2 : decide (4294967296 ≤ qa2) = false := by simp; omega
              have b3 : decide ((k : Int) < (m : Int)) = false := by simp; omega
              have b4 : decide (k < m) = false := by simp; omega
              clear hrel e1 e2 hm hs hk hc
              have HQ0 := Lib.hid HEND.out
              have hj := div_join 4294967296 y hi u1 u0 qb R1 qa2 ((R1 * 4294967296 + u0) % y) (by rw [HEND1.out, HR1.out]; exact (Nat.div_add_mod' _ _).symm) (by rw [HQ0.out]; exact (Nat.div_add_mod' _ _).symm) (Nat.mod_lt _ (by omega))
              rw [show (4294967296 : Nat) * 4294967296 = W64 by decide, ← HLJ.out] at hj
              have hQ1b : qb < 4294967296 := by rw [HEND1.out]; exact half_lt hi u1 y hhy hu1b
              have hq2b : qa2 < 4294967296 := by rw [HQ0.out]; exact half_lt R1 u0 y hR1y hu0b
              have hw1 : IntKind.u64.wrap (IntKind.u64.wrap ((qb : Int) * 4294967296) + (qa2 : Int)) = ((qb * 4294967296 + qa2 : Nat) : Int) := by
                rw [IntKind.wrap_u64, IntKind.wrap_u64]; omega
              obtain ⟨R0, hR0⟩ : ∃ R0, R0 = (R1 * 4294967296 + u0) % y := ⟨_, rfl⟩
              have hw2 : IntKind.u64.wrap (IntKind.u64.wrap (IntKind.u64.wrap ((R1 : Int) * 4294967296) + (u0 : Int)) - IntKind.u64.wrap ((qa2 : Int) * (y : Int))) = (R0 : Int) := by
                have h9 : R1 * 4294967296 + u0 = qa2 * y + R0 := by rw [hR0, HQ0.out]; exact (Nat.div_add_mod' _ _).symm
                exact wrap_rest R1 u0 qa2 y R0 h9 (by rw [hR0]; exact Nat.lt_trans (Nat.mod_lt _ (by omega)) hy64)
              rw [← hR0] at hj
              have HJ := Lib.hid hj
              clear hj hR0 hQ1b hq2b
              go_wp2
              go_ret2
              refine ⟨?_, rfl⟩
              rw [HJ.out.1, HJ.out.2, ← hw2, Int.natCast_add, Int.natCast_mul]
              rfl
        · have HEND1 := Lib.hid HEND.out
          clear HEND
          obtain ⟨R1, hR1⟩ : ∃ R1, R1 = (hi * 4294967296 + u1) % y := ⟨_, rfl⟩
          have hR1y : R1 < y := by rw [hR1]; exact Nat.mod_lt _ (by omega)
          have hsum : hi * 4294967296 + u1 = qb * y + R1 := by rw [hR1, HEND1.out]; exact (Nat.div_add_mod' _ _).symm
          have hX := wrap_rest hi u1 qb y R1 hsum (by omega)
          have HS2 := Lib.hid (half_start 4294967296 y1 y0 R1 u0 (by have := HYJ.out; omega) hu0b hy0b (by omega) (by omega) y1b2)
          obtain ⟨q2, hq2⟩ : ∃ q2 : Nat, (R1 : Int) / (y1 : Int) = (q2 : Int) ∧ q2 = R1 / y1 := ⟨R1 / y1, by simp, rfl⟩
          obtain ⟨r2, hr2⟩ : ∃ r2, r2 = R1 % y1 := ⟨_, rfl⟩
          rw [← hq2.2, ← hr2] at HS2
          have hq21 := hq2.1
          have hsub2 : (R1 : Int) - (q2 : Int) * (y1 : Int) = (r2 : Int) := by
            have h3 := HS2.out.1
            have e : (q2 : Int) * (y1 : Int) = ((q2 * y1 : Nat) : Int) := by simp
            rw [e]; omega
          have hpq2 : q2 * y1 ≤ R1 := by have h3 := HS2.out.1; omega
          have hwq2 : IntKind.u64.wrap (q2 : Int) = (q2 : Int) := wrap64_small _ (by omega) (by have := HS2.out.2.2.2; omega)
          have hwp2 : IntKind.u64.wrap ((q2 : Int) * (y1 : Int)) = (q2 : Int) * (y1 : Int) := by
            have e : (q2 : Int) * (y1 : Int) = ((q2 * y1 : Nat) : Int) := by simp
            rw [e]
            exact wrap64_small _ (by omega) (by omega)
          have hwr2 : IntKind.u64.wrap (r2 : Int) = (r2 : Int) := wrap64_small _ (by omega) (by have := HS2.out.2.2.1; omega)
          have HR1 := Lib.hid hR1
          clear hR1 hsum hq2 hr2 hpq2
          go_wp2_with fail
          go_loop [18, 16] (fun qv rv => ∃ (qa2 ra2 : Nat), qv = .int .u64 (qa2 : Int) ∧ rv = .int .u64 (ra2 : Int) ∧ Hid (HalfRel 4294967296 y1 y0 R1 u0 qa2 ra2))
            (fun qv _ => (intOf qv).toNat)
          case atStart => exact ⟨q2, r2, rfl, rfl, HS2.out⟩
          case round =>
            clear hq21 hsub2 hwq2 hwp2 hwr2 HS2 hX
            obtain ⟨qa2, ra2, rfl, rfl, hrel⟩ := hrel
            obtain ⟨e1, e2, e3, e4⟩ := hrel.out
            have hm1 : qa2 * y0 ≤ 4294967297 * 4294967295 := Nat.mul_le_mul e4 (by omega)
            have hwm : IntKind.u64.wrap ((qa2 : Int) * (y0 : Int)) = ((qa2 * y0 : Nat) : Int) := by
              have e : (qa2 : Int) * (y0 : Int) = ((qa2 * y0 : Nat) : Int) := by simp
              rw [e]
              exact wrap64_small _ (by omega) (by omega)
            obtain ⟨m, hm⟩ : ∃ m, m = qa2 * y0 := ⟨_, rfl⟩
            rw [← hm] at hwm hm1
            obtain ⟨s, hs⟩ : ∃ s : Nat, (4294967296 : Int) * (ra2 : Int) = (s : Int) ∧ s = 4294967296 * ra2 := ⟨4294967296 * ra2, by omega, rfl⟩
            have hs1 := hs.1
            have hws : IntKind.u64.wrap (s : Int) = (s : Int) := wrap64_small _ (by omega) (by omega)
            obtain ⟨k, hk⟩ : ∃ k : Nat, (s : Int) + (u0 : Int) = (k : Int) ∧ k = s + u0 := ⟨s + u0, by omega, rfl⟩
            have hk1 := hk.1
            have hwk : IntKind.u64.wrap (k : Int) = (k : Int) := wrap64_small _ (by omega) (by omega)
            have hwq : IntKind.u64.wrap (qa2 : Int) = (qa2 : Int) := wrap64_small _ (by omega) (by omega)
            by_cases hc : 4294967296 ≤ qa2 ∨ k < m
            · have hge := half_ge 4294967296 y1 y0 R1 u0 qa2 ra2 (by rw [← HYJ.out]; exact hR1y) hu0b e1 (by rw [hm, hk.2, hs.2] at hc; exact hc)
              have hq0 : 0 < qa2 := Nat.lt_of_le_of_lt (Nat.zero_le _) hge
              obtain ⟨qb2, hq'⟩ : ∃ qb2, qa2 = qb2 + 1 := ⟨qa2 - 1, by omega⟩
              have hqs : (qa2 : Int) - 1 = (qb2 : Int) := by omega
              have hwq' : IntKind.u64.wrap (qb2 : Int) = (qb2 : Int) := wrap64_small _ (by omega) (by omega)
              obtain ⟨rb2, hr'⟩ : ∃ rb2 : Nat, (ra2 : Int) + (y1 : Int) = (rb2 : Int) ∧ rb2 = ra2 + y1 := ⟨ra2 + y1, by omega, rfl⟩
              have hr1 := hr'.1
              have hwr' : IntKind.u64.wrap (rb2 : Int) = (rb2 : Int) := wrap64_small _ (by omega) (by omega)
              have e1' : R1 = qb2 * y1 + rb2 := by rw [hr'.2, e1, hq']; grind
              have HE := Lib.hid e1'
              have HQ' := Lib.hid hq'
              have HGE := Lib.hid hge
              have H4 := Lib.hid e4
              have hcb : (decide ((4294967296 : Int) ≤ (qa2 : Int)) = true ∧ decide (4294967296 ≤ qa2) = true) ∨ (decide ((4294967296 : Int) ≤ (qa2 : Int)) = false ∧ decide (4294967296 ≤ qa2) = false ∧ decide ((k : Int) < (m : Int)) = true ∧ decide (k < m) = true) := by
                rcases Nat.lt_or_ge qa2 4294967296 with h5 | h5
                · right
                  have h6 : k < m := by omega
                  refine ⟨by simp; omega, by simp; omega, by simp; omega, by simp; omega⟩
                · left
                  exact ⟨by simp; omega, by simp; omega⟩
              have hrb : (4294967296 ≤ rb2 ∧ decide ((4294967296 : Int) ≤ (rb2 : Int)) = true ∧ decide (4294967296 ≤ rb2) = true) ∨ (rb2 < 4294967296 ∧ decide ((4294967296 : Int) ≤ (rb2 : Int)) = false ∧ decide (4294967296 ≤ rb2) = false) := by
                rcases Nat.lt_or_ge rb2 4294967296 with h5 | h5
                · right; exact ⟨h5, by simp; omega, by simp; omega⟩
                · left; exact ⟨h5, by simp; omega, by simp; omega⟩
              clear hrel e1 e2 hm hs hk hc hge hq' hr' e1' e4 hq0
              rcases hrb with ⟨hrb, d1, d2⟩ | ⟨hrb, d1, d2⟩
              · have HEND : Hid (qb2 = (R1 * 4294967296 + u0) / y) := by
                  unfold Hid
                  have h5 := half_brk 4294967296 y1 y0 R1 u0 qb2 rb2 (by have := HYJ.out; omega) hy0b HE.out (by have := HQ'.out; have := H4.out; omega) hrb
                  have h6 := HGE.out
                  have h7 := HQ'.out
                  rw [← HYJ.out] at h5 h6
                  omega
                clear hrb
                rcases hcb with ⟨b1, b2⟩ | ⟨b1, b2, b3, b4⟩
                · have HQ0 := Lib.hid HEND.out
                  have hj := div_join 4294967296 y hi u1 u0 qb R1 qb2 ((R1 * 4294967296 + u0) % y) (by rw [HEND1.out, HR1.out]; exact (Nat.div_add_mod' _ _).symm) (by rw [HQ0.out]; exact (Nat.div_add_mod' _ _).symm) (Nat.mod_lt _ (by omega))
                  rw [show (4294967296 : Nat) * 4294967296 = W64 by decide, ← HLJ.out] at hj
                  have hQ1b : qb < 4294967296 := by rw [HEND1.out]; exact half_lt hi u1 y hhy hu1b
                  have hq2b : qb2 < 4294967296 := by rw [HQ0.out]; exact half_lt R1 u0 y hR1y hu0b
                  have hw1 : IntKind.u64.wrap (IntKind.u64.wrap ((qb : Int) * 4294967296) + (qb2 : Int)) = ((qb * 4294967296 + qb2 : Nat) : Int) := by
                    rw [IntKind.wrap_u64, IntKind.wrap_u64]; omega
                  obtain ⟨R0, hR0⟩ : ∃ R0, R0 = (R1 * 4294967296 + u0) % y := ⟨_, rfl⟩
                  have hw2 : IntKind.u64.wrap (IntKind.u64.wrap (IntKind.u64.wrap ((R1 : Int) * 4294967296) + (u0 : Int)) - IntKind.u64.wrap ((qb2 : Int) * (y : Int))) = (R0 : Int) := by
                    have h9 : R1 * 4294967296 + u0 = qb2 * y + R0 := by rw [hR0, HQ0.out]; exact (Nat.div_add_mod' _ _).symm
                    exact wrap_rest R1 u0 qb2 y R0 h9 (by rw [hR0]; exact Nat.lt_trans (Nat.mod_lt _ (by omega)) hy64)
                  rw [← hR0] at hj
                  have HJ := Lib.hid hj
                  clear hj hR0 hQ1b hq2b
                  go_wp2
                  go_ret2
                  refine ⟨?_, rfl⟩
                  rw [HJ.out.1, HJ.out.2, ← hw2, Int.natCast_add, Int.natCast_mul]
                  rfl
                · have HQ0 := Lib.hid HEND.out
                  have hj := div_join 4294967296 y hi u1 u0 qb R1 qb2 ((R1 * 4294967296 + u0) % y) (by rw [HEND1.out, HR1.out]; exact (Nat.div_add_mod' _ _).symm) (by rw [HQ0.out]; exact (Nat.div_add_mod' _ _).symm) (Nat.mod_lt _ (by omega))
                  rw [show (4294967296 : Nat) * 4294967296 = W64 by decide, ← HLJ.out] at hj
                  have hQ1b : qb < 4294967296 := by rw [HEND1.out]; exact half_lt hi u1 y hhy hu1b
                  have hq2b : qb2 < 4294967296 := by rw [HQ0.out]; exact half_lt R1 u0 y hR1y hu0b
                  have hw1 : IntKind.u64.wrap (IntKind.u64.wrap ((qb : Int) * 4294967296) + (qb2 : Int)) = ((qb * 4294967296 + qb2 : Nat) : Int) := by
                    rw [IntKind.wrap_u64, IntKind.wrap_u64]; omega
                  obtain ⟨R0, hR0⟩ : ∃ R0, R0 = (R1 * 4294967296 + u0) % y := ⟨_, rfl⟩
                  have hw2 : IntKind.u64.wrap (IntKind.u64.wrap (IntKind.u64.wrap ((R1 : Int) * 4294967296) + (u0 : Int)) - IntKind.u64.wrap ((qb2 : Int) * (y : Int))) = (R0 : Int) := by
                    have h9 : R1 * 4294967296 + u0 = qb2 * y + R0 := by rw [hR0, HQ0.out]; exact (Nat.div_add_mod' _ _).symm
                    exact wrap_rest R1 u0 qb2 y R0 h9 (by rw [hR0]; exact Nat.lt_trans (Nat.mod_lt _ (by omega)) hy64)
                  rw [← hR0] at hj
                  have HJ := Lib.hid hj
                  clear hj hR0 hQ1b hq2b
                  go_wp2
                  go_ret2
                  refine ⟨?_, rfl⟩
                  rw [HJ.out.1, HJ.out.2, ← hw2, Int.natCast_add, Int.natCast_mul]
                  rfl
              · have HREL : Hid (HalfRel 4294967296 y1 y0 R1 u0 qb2 rb2) := by
                  have h6 := HGE.out
                  have h7 := HQ'.out
                  have h8 := H4.out
                  exact ⟨HE.out, by omega, hrb, by omega⟩
                clear hrb
                rcases hcb with ⟨b1, b2⟩ | ⟨b1, b2, b3, b4⟩
                all_goals
                  go_wp2
                  go_round
                  case rel => exact ⟨qb2, rb2, rfl, rfl, HREL.out⟩
                  case measure => have h7 := HQ'.out; simp [intOf]; omega
            · have HEND : Hid (qa2 = (R1 * 4294967296 + u0) / y) := by
                unfold Hid
                rw [hm, hk.2, hs.2] at hc
                have h5 := half_le 4294967296 y1 y0 R1 u0 qa2 ra2 (by have := HYJ.out; omega) e1 (by omega)
                rw [← HYJ.out] at h5 e2
                omega
              have b1 : decide ((4294967296 : Int) ≤ (qa2 : Int)) = false := by simp; omega
              have b2 : decide (4294967296 ≤ qa2) = false := by simp; omega
              have b3 : decide ((k : Int) < (m : Int)) = false := by simp; omega
              have b4 : decide (k < m) = false := by simp; omega
              clear hrel e1 e2 hm hs hk hc
              have HQ0 := Lib.hid HEND.out
              have hj := div_join 4294967296 y hi u1 u0 qb R1 qa2 ((R1 * 4294967296 + u0) % y) (by rw [HEND1.out, HR1.out]; exact (Nat.div_add_mod' _ _).symm) (by rw [HQ0.out]; exact (Nat.div_add_mod' _ _).symm) (Nat.mod_lt _ (by omega))
              rw [show (4294967296 : Nat) * 4294967296 = W64 by decide, ← HLJ.out] at hj
              have hQ1b : qb < 4294967296 := by rw [HEND1.out]; exact half_lt hi u1 y hhy hu1b
              have hq2b : qa2 < 4294967296 := by rw [HQ0.out]; exact half_lt R1 u0 y hR1y hu0b
              have hw1 : IntKind.u64.wrap (IntKind.u64.wrap ((qb : Int) * 4294967296) + (qa2 : Int)) = ((qb * 4294967296 + qa2 : Nat) : Int) := by
                rw [IntKind.wrap_u64, IntKind.wrap_u64]; omega
              obtain ⟨R0, hR0⟩ : ∃ R0, R0 = (R1 * 4294967296 + u0) % y := ⟨_, rfl⟩
              have hw2 : IntKind.u64.wrap (IntKind.u64.wrap (IntKind.u64.wrap ((R1 : Int) * 4294967296) + (u0 : Int)) - IntKind.u64.wrap ((qa2 : Int) * (y : Int))) = (R0 : Int) := by
                have h9 : R1 * 4294967296 + u0 = qa2 * y + R0 := by rw [hR0, HQ0.out]; exact (Nat.div_add_mod' _ _).symm
                exact wrap_rest R1 u0 qa2 y R0 h9 (by rw [hR0]; exact Nat.lt_trans (Nat.mod_lt _ (by omega)) hy64)
              rw [← hR0] at hj
              have HJ := Lib.hid hj
              clear hj hR0 hQ1b hq2b
              go_wp2
              go_ret2
              refine ⟨?_, rfl⟩
              rw [HJ.out.1, HJ.out.2, ← hw2, Int.natCast_add, Int.natCast_mul]
              rfl
      · have HREL : Hid (HalfRel 4294967296 y1 y0 hi u1 qb rb) := by
          have h6 := HGE.out
          have h7 := HQ'.out
          have h8 := H4.out
          exact ⟨HE.out, by omega, hrb, by omega⟩
        clear hrb
        rcases hcb with ⟨b1, b2⟩ | ⟨b1, b2, b3, b4⟩
        all_goals
          go_wp2
          go_round
          case rel => exact ⟨qb, rb, rfl, rfl, HREL.out⟩
          case measure => have h7 := HQ'.out; simp [intOf]; omega
    · have HEND : Hid (qa = (hi * 4294967296 + u1) / y) := by
        unfold Hid
        rw [hm, hk.2, hs.2] at hc
        have h5 := half_le 4294967296 y1 y0 hi u1 qa ra (by have := HYJ.out; omega) e1 (by omega)
        rw [← HYJ.out] at h5 e2
        omega
      have b1 : decide ((4294967296 : Int) ≤ (qa : Int)) = false := by simp; omega
      have b2 : decide (4294967296 ≤ qa) = false := by simp; omega
      have b3 : decide ((k : Int) < (m : Int)) = false := by simp; omega
      have b4 : decide (k < m) = false := by simp; omega
      clear hrel e1 e2 hm hs hk hc
      have HEND1 := Lib.hid HEND.out
      clear HEND
      obtain ⟨R1, hR1⟩ : ∃ R1, R1 = (hi * 4294967296 + u1) % y := ⟨_, rfl⟩
      have hR1y : R1 < y := by rw [hR1]; exact Nat.mod_lt _ (by omega)
      have hsum : hi * 4294967296 + u1 = qa * y + R1 := by rw [hR1, HEND1.out]; exact (Nat.div_add_mod' _ _).symm
      have hX := wrap_rest hi u1 qa y R1 hsum (by omega)
      have HS2 := Lib.hid (half_start 4294967296 y1 y0 R1 u0 (by have := HYJ.out; omega) hu0b hy0b (by omega) (by omega) y1b2)
      obtain ⟨q2, hq2⟩ : ∃ q2 : Nat, (R1 : Int) / (y1 : Int) = (q2 : Int) ∧ q2 = R1 / y1 := ⟨R1 / y1, by simp, rfl⟩
      obtain ⟨r2, hr2⟩ : ∃ r2, r2 = R1 % y1 := ⟨_, rfl⟩
      rw [← hq2.2, ← hr2] at HS2
      have hq21 := hq2.1
      have hsub2 : (R1 : Int) - (q2 : Int) * (y1 : Int) = (r2 : Int) := by
        have h3 := HS2.out.1
        have e : (q2 : Int) * (y1 : Int) = ((q2 * y1 : Nat) : Int) := by simp
        rw [e]; omega
      have hpq2 : q2 * y1 ≤ R1 := by have h3 := HS2.out.1; omega
      have hwq2 : IntKind.u64.wrap (q2 : Int) = (q2 : Int) := wrap64_small _ (by omega) (by have := HS2.out.2.2.2; omega)
      have hwp2 : IntKind.u64.wrap ((q2 : Int) * (y1 : Int)) = (q2 : Int) * (y1 : Int) := by
        have e : (q2 : Int) * (y1 : Int) = ((q2 * y1 : Nat) : Int) := by simp
        rw [e]
        exact wrap64_small _ (by omega) (by omega)
      have hwr2 : IntKind.u64.wrap (r2 : Int) = (r2 : Int) := wrap64_small _ (by omega) (by have := HS2.out.2.2.1; omega)
      have HR1 := Lib.hid hR1
      clear hR1 hsum hq2 hr2 hpq2
      go_wp2_with fail
      go_loop [18, 16] (fun qv rv => ∃ (qa2 ra2 : Nat), qv = .int .u64 (qa2 : Int) ∧ rv = .int .u64 (ra2 : Int) ∧ Hid (HalfRel 4294967296 y1 y0 R1 u0 qa2 ra2))
        (fun qv _ => (intOf qv).toNat)
      case atStart => exact ⟨q2, r2, rfl, rfl, HS2.out⟩
      case round =>
        clear hq21 hsub2 hwq2 hwp2 hwr2 HS2 hX
        obtain ⟨qa2, ra2, rfl, rfl, hrel⟩ := hrel
        obtain ⟨e1, e2, e3, e4⟩ := hrel.out
        have hm1 : qa2 * y0 ≤ 4294967297 * 4294967295 := Nat.mul_le_mul e4 (by omega)
        have hwm : IntKind.u64.wrap ((qa2 : Int) * (y0 : Int)) = ((qa2 * y0 : Nat) : Int) := by
          have e : (qa2 : Int) * (y0 : Int) = ((qa2 * y0 : Nat) : Int) := by simp
          rw [e]
          exact wrap64_small _ (by omega) (by omega)
        obtain ⟨m, hm⟩ : ∃ m, m = qa2 * y0 := ⟨_, rfl⟩
        rw [← hm] at hwm hm1
        obtain ⟨s, hs⟩ : ∃ s : Nat, (4294967296 : Int) * (ra2 : Int) = (s : Int) ∧ s = 4294967296 * ra2 := ⟨4294967296 * ra2, by omega, rfl⟩
        have hs1 := hs.1
        have hws : IntKind.u64.wrap (s : Int) = (s : Int) := wrap64_small _ (by omega) (by omega)
        obtain ⟨k, hk⟩ : ∃ k : Nat, (s : Int) + (u0 : Int) = (k : Int) ∧ k = s + u0 := ⟨s + u0, by omega, rfl⟩
        have hk1 := hk.1
        have hwk : IntKind.u64.wrap (k : Int) = (k : Int) := wrap64_small _ (by omega) (by omega)
        have hwq : IntKind.u64.wrap (qa2 : Int) = (qa2 : Int) := wrap64_small _ (by omega) (by omega)
        by_cases hc : 4294967296 ≤ qa2 ∨ k < m
        · have hge := half_ge 4294967296 y1 y0 R1 u0 qa2 ra2 (by rw [← HYJ.out]; exact hR1y) hu0b e1 (by rw [hm, hk.2, hs.2] at hc; exact hc)
          have hq0 : 0 < qa2 := Nat.lt_of_le_of_lt (Nat.zero_le _) hge
          obtain ⟨qb2, hq'⟩ : ∃ qb2, qa2 = qb2 + 1 := ⟨qa2 - 1, by omega⟩
          have hqs : (qa2 : Int) - 1 = (qb2 : Int) := by omega
          have hwq' : IntKind.u64.wrap (qb2 : Int) = (qb2 : Int) := wrap64_small _ (by omega) (by omega)
          obtain ⟨rb2, hr'⟩ : ∃ rb2 : Nat, (ra2 : Int) + (y1 : Int) = (rb2 : Int) ∧ rb2 = ra2 + y1 := ⟨ra2 + y1, by omega, rfl⟩
          have hr1 := hr'.1
          have hwr' : IntKind.u64.wrap (rb2 : Int) = (rb2 : Int) := wrap64_small _ (by omega) (by omega)
          have e1' : R1 = qb2 * y1 + rb2 := by rw [hr'.2, e1, hq']; grind
          have HE := Lib.hid e1'
          have HQ' := Lib.hid hq'
          have HGE := Lib.hid hge
          have H4 := Lib.hid e4
          have hcb : (decide ((4294967296 : Int) ≤ (qa2 : Int)) = true ∧ decide (4294967296 ≤ qa2) = true) ∨ (decide ((4294967296 : Int) ≤ (qa2 : Int)) = false ∧ decide (4294967296 ≤ qa2) = false ∧ decide ((k : Int) < (m : Int)) = true ∧ decide (k < m) = true) := by
            rcases Nat.lt_or_ge qa2 4294967296 with h5 | h5
            · right
              have h6 : k < m := by omega
              refine ⟨by simp; omega, by simp; omega, by simp; omega, by simp; omega⟩
            · left
              exact ⟨by simp; omega, by simp; omega⟩
          have hrb : (4294967296 ≤ rb2 ∧ decide ((4294967296 : Int) ≤ (rb2 : Int)) = true ∧ decide (4294967296 ≤ rb2) = true) ∨ (rb2 < 4294967296 ∧ decide ((4294967296 : Int) ≤ (rb2 : Int)) = false ∧ decide (4294967296 ≤ rb2) = false) := by
            rcases Nat.lt_or_ge rb2 4294967296 with h5 | h5
            · right; exact ⟨h5, by simp; omega, by simp; omega⟩
            · left; exact ⟨h5, by simp; omega, by simp; omega⟩
          clear hrel e1 e2 hm hs hk hc hge hq' hr' e1' e4 hq0
          rcases hrb with ⟨hrb, d1, d2⟩ | ⟨hrb, d1, d2⟩
          · have HEND : Hid (qb2 = (R1 * 4294967296 + u0) / y) := by
              unfold Hid
              have h5 := half_brk 4294967296 y1 y0 R1 u0 qb2 rb2 (by have := HYJ.out; omega) hy0b HE.out (by have := HQ'.out; have := H4.out; omega) hrb
              have h6 := HGE.out
              have h7 := HQ'.out
              rw [← HYJ.out] at h5 h6
              omega
            clear hrb
            rcases hcb with ⟨b1, b2⟩ | ⟨b1, b2, b3, b4⟩
            · have HQ0 := Lib.hid HEND.out
              have hj := div_join 4294967296 y hi u1 u0 qa R1 qb2 ((R1 * 4294967296 + u0) % y) (by rw [HEND1.out, HR1.out]; exact (Nat.div_add_mod' _ _).symm) (by rw [HQ0.out]; exact (Nat.div_add_mod' _ _).symm) (Nat.mod_lt _ (by omega))
              rw [show (4294967296 : Nat) * 4294967296 = W64 by decide, ← HLJ.out] at hj
              have hQ1b : qa < 4294967296 := by rw [HEND1.out]; exact half_lt hi u1 y hhy hu1b
              have hq2b : qb2 < 4294967296 := by rw [HQ0.out]; exact half_lt R1 u0 y hR1y hu0b
              have hw1 : IntKind.u64.wrap (IntKind.u64.wrap ((qa : Int) * 4294967296) + (qb2 : Int)) = ((qa * 4294967296 + qb2 : Nat) : Int) := by
                rw [IntKind.wrap_u64, IntKind.wrap_u64]; omega
              obtain ⟨R0, hR0⟩ : ∃ R0, R0 = (R1 * 4294967296 + u0) % y := ⟨_, rfl⟩
              have hw2 : IntKind.u64.wrap (IntKind.u64.wrap (IntKind.u64.wrap ((R1 : Int) * 4294967296) + (u0 : Int)) - IntKind.u64.wrap ((qb2 : Int) * (y : Int))) = (R0 : Int) := by
                have h9 : R1 * 4294967296 + u0 = qb2 * y + R0 := by rw [hR0, HQ0.out]; exact (Nat.div_add_mod' _ _).symm
                exact wrap_rest R1 u0 qb2 y R0 h9 (by rw [hR0]; exact Nat.lt_trans (Nat.mod_lt _ (by omega)) hy64)
              rw [← hR0] at hj
              have HJ := Lib.hid hj
              clear hj hR0 hQ1b hq2b
              go_wp2
              go_ret2
              refine ⟨?_, rfl⟩
              rw [HJ.out.1, HJ.out.2, ← hw2, Int.natCast_add, Int.natCast_mul]
              rfl
            · have HQ0 := Lib.hid HEND.out
              have hj := div_join 4294967296 y hi u1 u0 qa R1 qb2 ((R1 * 4294967296 + u0) % y) (by rw [HEND1.out, HR1.out]; exact (Nat.div_add_mod' _ _).symm) (by rw [HQ0.out]; exact (Nat.div_add_mod' _ _).symm) (Nat.mod_lt _ (by omega))
              rw [show (4294967296 : Nat) * 4294967296 = W64 by decide, ← HLJ.out] at hj
              have hQ1b : qa < 4294967296 := by rw [HEND1.out]; exact half_lt hi u1 y hhy hu1b
              have hq2b : qb2 < 4294967296 := by rw [HQ0.out]; exact half_lt R1 u0 y hR1y hu0b
              have hw1 : IntKind.u64.wrap (IntKind.u64.wrap ((qa : Int) * 4294967296) + (qb2 : Int)) = ((qa * 4294967296 + qb2 : Nat) : Int) := by
                rw [IntKind.wrap_u64, IntKind.wrap_u64]; omega
              obtain ⟨R0, hR0⟩ : ∃ R0, R0 = (R1 * 4294967296 + u0) % y := ⟨_, rfl⟩
              have hw2 : IntKind.u64.wrap (IntKind.u64.wrap (IntKind.u64.wrap ((R1 : Int) * 4294967296) + (u0 : Int)) - IntKind.u64.wrap ((qb2 : Int) * (y : Int))) = (R0 : Int) := by
                have h9 : R1 * 4294967296 + u0 = qb2 * y + R0 := by rw [hR0, HQ0.out]; exact (Nat.div_add_mod' _ _).symm
                exact wrap_rest R1 u0 qb2 y R0 h9 (by rw [hR0]; exact Nat.lt_trans (Nat.mod_lt _ (by omega)) hy64)
              rw [← hR0] at hj
              have HJ := Lib.hid hj
              clear hj hR0 hQ1b hq2b
              go_wp2
              go_ret2
              refine ⟨?_, rfl⟩
              rw [HJ.out.1, HJ.out.2, ← hw2, Int.natCast_add, Int.natCast_mul]
              rfl
          · have HREL : Hid (HalfRel 4294967296 y1 y0 R1 u0 qb2 rb2) := by
              have h6 := HGE.out
              have h7 := HQ'.out
              have h8 := H4.out
              exact ⟨HE.out, by omega, hrb, by omega⟩
            clear hrb
            rcases hcb with ⟨b1, b2⟩ | ⟨b1, b2, b3, b4⟩
            all_goals
              go_wp2
              go_round
              case rel => exact ⟨qb2, rb2, rfl, rfl, HREL.out⟩
              case measure => have h7 := HQ'.out; simp [intOf]; omega
        · have HEND : Hid (qa2 = (R1 * 4294967296 + u0) / y) := by
            unfold Hid
            rw [hm, hk.2, hs.2] at hc
            have h5 := half_le 4294967296 y1 y0 R1 u0 qa2 ra2 (by have := HYJ.out; omega) e1 (by omega)
            rw [← HYJ.out] at h5 e2
            omega
          have b1 : decide ((4294967296 : Int) ≤ (qa2 : Int)) = false := by simp; omega
          have b2 : decide (4294967296 ≤ qa2) = false := by simp; omega
          have b3 : decide ((k : Int) < (m : Int)) = false := by simp; omega
          have b4 : decide (k < m) = false := by simp; omega
          clear hrel e1 e2 hm hs hk hc
          have HQ0 := Lib.hid HEND.out
          have hj := div_join 4294967296 y hi u1 u0 qa R1 qa2 ((R1 * 4294967296 + u0) % y) (by rw [HEND1.out, HR1.out]; exact (Nat.div_add_mod' _ _).symm) (by rw [HQ0.out]; exact (Nat.div_add_mod' _ _).symm) (Nat.mod_lt _ (by omega))
          rw [show (4294967296 : Nat) * 4294967296 = W64 by decide, ← HLJ.out] at hj
          have hQ1b : qa < 4294967296 := by rw [HEND1.out]; exact half_lt hi u1 y hhy hu1b
          have hq2b : qa2 < 4294967296 := by rw [HQ0.out]; exact half_lt R1 u0 y hR1y hu0b
          have hw1 : IntKind.u64.wrap (IntKind.u64.wrap ((qa : Int) * 4294967296) + (qa2 : Int)) = ((qa * 4294967296 + qa2 : Nat) : Int) := by
            rw [IntKind.wrap_u64, IntKind.wrap_u64]; omega
          obtain ⟨R0, hR0⟩ : ∃ R0, R0 = (R1 * 4294967296 + u0) % y := ⟨_, rfl⟩
          have hw2 : IntKind.u64.wrap (IntKind.u64.wrap (IntKind.u64.wrap ((R1 : Int) * 4294967296) + (u0 : Int)) - IntKind.u64.wrap ((qa2 : Int) * (y : Int))) = (R0 : Int) := by
            have h9 : R1 * 4294967296 + u0 = qa2 * y + R0 := by rw [hR0, HQ0.out]; exact (Nat.div_add_mod' _ _).symm
            exact wrap_rest R1 u0 qa2 y R0 h9 (by rw [hR0]; exact Nat.lt_trans (Nat.mod_lt _ (by omega)) hy64)
          rw [← hR0] at hj
          have HJ := Lib.hid hj
          clear hj hR0 hQ1b hq2b
          go_wp2
          go_ret2
          refine ⟨?_, rfl⟩
          rw [HJ.out.1, HJ.out.2, ← hw2, Int.natCast_add, Int.natCast_mul]
          rfl
end Go.Proofs.YtndeolcamgnmdaaGreatDoor
