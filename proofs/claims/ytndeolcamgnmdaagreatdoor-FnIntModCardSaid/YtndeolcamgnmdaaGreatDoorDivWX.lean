/- Two words divided by one, by the reciprocal of the divisor: the walk. -/
import Derived.Test.YtndeolcamgnmdaaGreatDoorDivWW
set_option linter.unusedVariables false
set_option linter.unusedSimpArgs false
set_option linter.unnecessarySimpa false
namespace Go.Proofs.YtndeolcamgnmdaaGreatDoor
open Go.RowKit
set_option maxRecDepth 20000 in
set_option maxHeartbeats 4000000 in
theorem ww_zero (x1 x0 y s X1 X0 d m q r : Nat) (hs : s = nz y) (hy0 : 0 < y) (hy : y < W64) (hx0 : x0 < W64) (hs0 : s = 0) (hX1 : X1 = x1) (hX0 : X0 = x0) (hd : d = y) (hdd : 9223372036854775808 ≤ d) (hdW : d < W64) (hX1d : X1 < d) (hm : m = ((18446744073709551615 - d) * W64 + 18446744073709551615) / d)
    (h : X1 * W64 + X0 = q * d + r) (hr : r < d) (w : World) :
    Calls Tryz.prog 83 #[.int .u64 (x1 : Int), .int .u64 (x0 : Int), .int .u64 (y : Int), .int .u64 (m : Int)] w (QRPost q (r / 2 ^ s) w) := by
  have hX0W : X0 < W64 := by rw [hX0]; exact hx0
  obtain ⟨t1, t0, c, t, p1, p0, r0, b, r1, hmW, ht1, ht0, hc, hc1, ht, htW, hp1, hp0, hp0W, hp1W, hr0, hb, hb1, hr1, he, hr0W, hrr, hr11⟩ := ww_plan X1 X0 d m hdd hdW hX1d hX0W hm
  have HN := Lib.hid (nlz_w y hy w)
  rw [show 64 - Lib.bitLen y = nz y from rfl, ← hs] at HN
  have HMUL1 := Lib.hid (fun W => bits_mul_w m X1 hmW (by omega) W)
  rw [← ht1, ← ht0] at HMUL1
  obtain ⟨a0, ha0⟩ : ∃ a0, a0 = (t0 + X0 + 0) % W64 := ⟨_, rfl⟩
  have HADD1 := Lib.hid (fun W => bits_add t0 X0 0 (by omega) W)
  rw [← hc, ← ha0, show ((0 : Nat) : Int) = 0 from rfl] at HADD1
  obtain ⟨a1, ha1⟩ : ∃ a1, a1 = (t1 + X1 + c) / W64 := ⟨_, rfl⟩
  have HADD2 := Lib.hid (fun W => bits_add t1 X1 c hc1 W)
  rw [← ht, ← ha1] at HADD2
  have HMUL2 := Lib.hid (fun W => bits_mul_w d t hdW htW W)
  rw [← hp1, ← hp0] at HMUL2
  have HSUB1 := Lib.hid (fun W => bits_sub X0 p0 0 hX0W hp0W (by omega) W)
  rw [← hr0, ← hb, show ((0 : Nat) : Int) = 0 from rfl] at HSUB1
  obtain ⟨a2, ha2⟩ : ∃ a2, a2 = bor X1 p1 b := ⟨_, rfl⟩
  have HSUB2 := Lib.hid (fun W => bits_sub X1 p1 b (by omega) hp1W hb1 W)
  rw [← hr1, ← ha2] at HSUB2
  have hqW : q < W64 := by
    rcases Nat.lt_or_ge q W64 with h1 | h1
    · exact h1
    · exfalso
      have h2 : W64 * d ≤ q * d := Nat.mul_le_mul_right _ h1
      have h3 : (X1 + 1) * W64 ≤ d * W64 := Nat.mul_le_mul_right _ hX1d
      rw [Nat.add_mul] at h3
      have e : W64 * d = d * W64 := Nat.mul_comm _ _
      omega
  have h2d : W64 ≤ 2 * d := by unfold W64; omega
  obtain ⟨rs, hrs⟩ : ∃ rs, rs = r / 2 ^ s := ⟨_, rfl⟩
  rw [← hrs]
  have hrs2 : (r : Int) / 2 ^ s = (rs : Int) := by rw [hrs]; simp
  have hs64 : s < 64 := by rw [hs]; exact (nz_norm y hy0 hy).2.2
  have hmin : min s 64 = s := by omega
  have hsz : ((s : Int) != 0) = false := by rw [hs0]; rfl
  subst hX1 hX0 hd
  clear hm hs0 hs hrs ht1 ht0 ha0 hc ha1 ht hp1 hp0 hr0 hb ha2 hr1
  rcases (show r1 = 0 ∨ r1 = 1 by omega) with rfl | rfl
  · rw [show ((0 : Nat) : Int) = 0 from rfl] at HSUB2
    have hrw : r0 < W64 := hr0W
    rcases Nat.lt_or_ge r0 d with hlt | hge
    · obtain ⟨e1, e2⟩ := div_of (q := t) (r := r0) (y := d) (t := X1 * W64 + X0) (by omega) hlt
      obtain ⟨e3, e4⟩ := div_of h hr
      have HQR : Hid ((t : Int) = (q : Int) ∧ (r0 : Int) = (r : Int)) := ⟨by omega, by omega⟩
      have hd1 : decide ((d : Int) ≤ (r0 : Int)) = false := by simp; omega
      have hd2 : decide (d ≤ r0) = false := by simp; omega
      obtain rfl : r0 = r := by omega
      obtain rfl : t = q := by omega
      clear e1 e2 e3 e4 he h
      go_enter Tryz.func83, Tryz.ntmps83
      go_wp2_with fail
      refine HN.out.mono ?_
      rintro e w' ⟨rfl, rfl⟩
      go_wp2_with fail
      refine (HMUL1.out _).mono ?_
      rintro e w' ⟨rfl, rfl⟩
      go_wp2_with fail
      refine (HADD1.out _).mono ?_
      rintro e w' ⟨rfl, rfl⟩
      go_wp2_with fail
      refine (HADD2.out _).mono ?_
      rintro e w' ⟨rfl, rfl⟩
      go_wp2_with fail
      refine (HMUL2.out _).mono ?_
      rintro e w' ⟨rfl, rfl⟩
      go_wp2_with fail
      refine (HSUB1.out _).mono ?_
      rintro e w' ⟨rfl, rfl⟩
      go_wp2_with fail
      refine (HSUB2.out _).mono ?_
      rintro e w' ⟨rfl, rfl⟩
      go_wp2
      go_ret2
      refine ⟨?_, rfl⟩
      rfl
    · obtain ⟨r2, hr2⟩ : ∃ r2 : Nat, (r0 : Int) - (d : Int) = (r2 : Int) ∧ r0 = r2 + d := ⟨r0 - d, by omega, by omega⟩
      have hr21 := hr2.1
      obtain ⟨e1, e2⟩ := div_of (q := t + 1) (r := r2) (y := d) (t := X1 * W64 + X0) (by rw [Nat.add_mul]; omega) (by omega)
      obtain ⟨e3, e4⟩ := div_of h hr
      have hd1 : decide ((d : Int) ≤ (r0 : Int)) = true := by simp; omega
      have hd2 : decide (d ≤ r0) = true := by simp; omega
      have ht2 : (t : Int) + 1 = (q : Int) := by omega
      unfold W64 at hqW hdW hrw
      have hwt : IntKind.u64.wrap (q : Int) = (q : Int) := wrap64_small _ (by omega) (by omega)
      have hwr : IntKind.u64.wrap (r2 : Int) = (r2 : Int) := wrap64_small _ (by omega) (by omega)
      obtain rfl : r2 = r := by omega
      have HQR : Hid ((q : Int) = (q : Int) ∧ (r2 : Int) = (r2 : Int)) := ⟨rfl, rfl⟩
      clear e1 e2 e3 e4 he h hr2
      go_enter Tryz.func83, Tryz.ntmps83
      go_wp2_with fail
      refine HN.out.mono ?_
      rintro e w' ⟨rfl, rfl⟩
      go_wp2_with fail
      refine (HMUL1.out _).mono ?_
      rintro e w' ⟨rfl, rfl⟩
      go_wp2_with fail
      refine (HADD1.out _).mono ?_
      rintro e w' ⟨rfl, rfl⟩
      go_wp2_with fail
      refine (HADD2.out _).mono ?_
      rintro e w' ⟨rfl, rfl⟩
      go_wp2_with fail
      refine (HMUL2.out _).mono ?_
      rintro e w' ⟨rfl, rfl⟩
      go_wp2_with fail
      refine (HSUB1.out _).mono ?_
      rintro e w' ⟨rfl, rfl⟩
      go_wp2_with fail
      refine (HSUB2.out _).mono ?_
      rintro e w' ⟨rfl, rfl⟩
      go_wp2
      go_ret2
      refine ⟨?_, rfl⟩
      rfl
  · rw [show ((1 : Nat) : Int) = 1 from rfl] at HSUB2
    obtain ⟨r2, hr2⟩ : ∃ r2 : Nat, r2 + d = r0 + W64 := ⟨r0 + W64 - d, by omega⟩
    have hwr : IntKind.u64.wrap ((r0 : Int) - (d : Int)) = (r2 : Int) := by
      rw [IntKind.wrap_u64]
      unfold W64 at hr2 hr0W hdW
      omega
    rcases Nat.lt_or_ge r2 d with hlt | hge
    · obtain ⟨e1, e2⟩ := div_of (q := t + 1) (r := r2) (y := d) (t := X1 * W64 + X0) (by rw [Nat.add_mul]; omega) hlt
      obtain ⟨e3, e4⟩ := div_of h hr
      have hd1 : decide ((d : Int) ≤ (r2 : Int)) = false := by simp; omega
      have hd2 : decide (d ≤ r2) = false := by simp; omega
      have ht2 : (t : Int) + 1 = (q : Int) := by omega
      unfold W64 at hqW
      have hwt : IntKind.u64.wrap (q : Int) = (q : Int) := wrap64_small _ (by omega) (by omega)
      obtain rfl : r2 = r := by omega
      have HQR : Hid ((q : Int) = (q : Int) ∧ (r2 : Int) = (r2 : Int)) := ⟨rfl, rfl⟩
      clear e1 e2 e3 e4 he h hr2
      go_enter Tryz.func83, Tryz.ntmps83
      go_wp2_with fail
      refine HN.out.mono ?_
      rintro e w' ⟨rfl, rfl⟩
      go_wp2_with fail
      refine (HMUL1.out _).mono ?_
      rintro e w' ⟨rfl, rfl⟩
      go_wp2_with fail
      refine (HADD1.out _).mono ?_
      rintro e w' ⟨rfl, rfl⟩
      go_wp2_with fail
      refine (HADD2.out _).mono ?_
      rintro e w' ⟨rfl, rfl⟩
      go_wp2_with fail
      refine (HMUL2.out _).mono ?_
      rintro e w' ⟨rfl, rfl⟩
      go_wp2_with fail
      refine (HSUB1.out _).mono ?_
      rintro e w' ⟨rfl, rfl⟩
      go_wp2_with fail
      refine (HSUB2.out _).mono ?_
      rintro e w' ⟨rfl, rfl⟩
      go_wp2
      go_ret2
      refine ⟨?_, rfl⟩
      rfl
    · obtain ⟨r3, hr3⟩ : ∃ r3 : Nat, (r2 : Int) - (d : Int) = (r3 : Int) ∧ r2 = r3 + d := ⟨r2 - d, by omega, by omega⟩
      have hr31 := hr3.1
      obtain ⟨e1, e2⟩ := div_of (q := t + 2) (r := r3) (y := d) (t := X1 * W64 + X0) (by rw [Nat.add_mul]; omega) (by omega)
      obtain ⟨e3, e4⟩ := div_of h hr
      have hd1 : decide ((d : Int) ≤ (r2 : Int)) = true := by simp; omega
      have hd2 : decide (d ≤ r2) = true := by simp; omega
      obtain ⟨tq, htq⟩ : ∃ tq : Nat, (t : Int) + 1 = (tq : Int) ∧ tq = t + 1 := ⟨t + 1, by omega, rfl⟩
      have htq1 := htq.1
      have ht2 : (tq : Int) + 1 = (q : Int) := by omega
      unfold W64 at hqW hdW
      have hwt0 : IntKind.u64.wrap (tq : Int) = (tq : Int) := wrap64_small _ (by omega) (by omega)
      have hwt : IntKind.u64.wrap (q : Int) = (q : Int) := wrap64_small _ (by omega) (by omega)
      have hwr3 : IntKind.u64.wrap (r3 : Int) = (r3 : Int) := wrap64_small _ (by omega) (by omega)
      obtain rfl : r3 = r := by omega
      have HQR : Hid ((q : Int) = (q : Int) ∧ (r3 : Int) = (r3 : Int)) := ⟨rfl, rfl⟩
      clear e1 e2 e3 e4 he h hr2 hr3 htq
      go_enter Tryz.func83, Tryz.ntmps83
      go_wp2_with fail
      refine HN.out.mono ?_
      rintro e w' ⟨rfl, rfl⟩
      go_wp2_with fail
      refine (HMUL1.out _).mono ?_
      rintro e w' ⟨rfl, rfl⟩
      go_wp2_with fail
      refine (HADD1.out _).mono ?_
      rintro e w' ⟨rfl, rfl⟩
      go_wp2_with fail
      refine (HADD2.out _).mono ?_
      rintro e w' ⟨rfl, rfl⟩
      go_wp2_with fail
      refine (HMUL2.out _).mono ?_
      rintro e w' ⟨rfl, rfl⟩
      go_wp2_with fail
      refine (HSUB1.out _).mono ?_
      rintro e w' ⟨rfl, rfl⟩
      go_wp2_with fail
      refine (HSUB2.out _).mono ?_
      rintro e w' ⟨rfl, rfl⟩
      go_wp2
      go_ret2
      refine ⟨?_, rfl⟩
      rfl
set_option maxRecDepth 20000 in
set_option maxHeartbeats 4000000 in
theorem ww_pos (x1 x0 y s X1 X0 d m q r : Nat) (hs : s = nz y) (hy0 : 0 < y) (hy : y < W64) (hx0 : x0 < W64) (hs0 : 0 < s) (hx1 : x1 < W64) (hX1 : X1 = x1 * 2 ^ s % W64 + x0 / 2 ^ (64 - s)) (hX0 : X0 = x0 * 2 ^ s % W64) (hd : d = y * 2 ^ s) (hdd : 9223372036854775808 ≤ d) (hdW : d < W64) (hX1d : X1 < d) (hm : m = ((18446744073709551615 - d) * W64 + 18446744073709551615) / d)
    (h : X1 * W64 + X0 = q * d + r) (hr : r < d) (w : World) :
    Calls Tryz.prog 83 #[.int .u64 (x1 : Int), .int .u64 (x0 : Int), .int .u64 (y : Int), .int .u64 (m : Int)] w (QRPost q (r / 2 ^ s) w) := by
  have hX0W : X0 < W64 := by rw [hX0]; exact Nat.mod_lt _ W64_pos
  obtain ⟨t1, t0, c, t, p1, p0, r0, b, r1, hmW, ht1, ht0, hc, hc1, ht, htW, hp1, hp0, hp0W, hp1W, hr0, hb, hb1, hr1, he, hr0W, hrr, hr11⟩ := ww_plan X1 X0 d m hdd hdW hX1d hX0W hm
  have HN := Lib.hid (nlz_w y hy w)
  rw [show 64 - Lib.bitLen y = nz y from rfl, ← hs] at HN
  have HMUL1 := Lib.hid (fun W => bits_mul_w m X1 hmW (by omega) W)
  rw [← ht1, ← ht0] at HMUL1
  obtain ⟨a0, ha0⟩ : ∃ a0, a0 = (t0 + X0 + 0) % W64 := ⟨_, rfl⟩
  have HADD1 := Lib.hid (fun W => bits_add t0 X0 0 (by omega) W)
  rw [← hc, ← ha0, show ((0 : Nat) : Int) = 0 from rfl] at HADD1
  obtain ⟨a1, ha1⟩ : ∃ a1, a1 = (t1 + X1 + c) / W64 := ⟨_, rfl⟩
  have HADD2 := Lib.hid (fun W => bits_add t1 X1 c hc1 W)
  rw [← ht, ← ha1] at HADD2
  have HMUL2 := Lib.hid (fun W => bits_mul_w d t hdW htW W)
  rw [← hp1, ← hp0] at HMUL2
  have HSUB1 := Lib.hid (fun W => bits_sub X0 p0 0 hX0W hp0W (by omega) W)
  rw [← hr0, ← hb, show ((0 : Nat) : Int) = 0 from rfl] at HSUB1
  obtain ⟨a2, ha2⟩ : ∃ a2, a2 = bor X1 p1 b := ⟨_, rfl⟩
  have HSUB2 := Lib.hid (fun W => bits_sub X1 p1 b (by omega) hp1W hb1 W)
  rw [← hr1, ← ha2] at HSUB2
  have hqW : q < W64 := by
    rcases Nat.lt_or_ge q W64 with h1 | h1
    · exact h1
    · exfalso
      have h2 : W64 * d ≤ q * d := Nat.mul_le_mul_right _ h1
      have h3 : (X1 + 1) * W64 ≤ d * W64 := Nat.mul_le_mul_right _ hX1d
      rw [Nat.add_mul] at h3
      have e : W64 * d = d * W64 := Nat.mul_comm _ _
      omega
  have h2d : W64 ≤ 2 * d := by unfold W64; omega
  obtain ⟨rs, hrs⟩ : ∃ rs, rs = r / 2 ^ s := ⟨_, rfl⟩
  rw [← hrs]
  have hrs2 : (r : Int) / 2 ^ s = (rs : Int) := by rw [hrs]; simp
  have hs64 : s < 64 := by rw [hs]; exact (nz_norm y hy0 hy).2.2
  have hmin : min s 64 = s := by omega
  have hsz : ((s : Int) != 0) = true := by rw [bne_iff_ne]; omega
  obtain ⟨ss, hss⟩ : ∃ ss : Nat, (64 : Int) - (s : Int) = (ss : Int) ∧ ss = 64 - s := ⟨64 - s, by omega, rfl⟩
  have hss1 := hss.1
  have hwss : IntKind.u64.wrap (ss : Int) = (ss : Int) := wrap64_small _ (by omega) (by omega)
  have hminss : min ss 64 = ss := by omega
  obtain ⟨y1, hy1⟩ : ∃ y1, y1 = x1 * 2 ^ s % W64 := ⟨_, rfl⟩
  have hwy1 : IntKind.u64.wrap ((x1 : Int) * 2 ^ s) = (y1 : Int) := by rw [hy1, IntKind.wrap_u64]; unfold W64; simp
  obtain ⟨lo, hlo⟩ : ∃ lo, lo = x0 / 2 ^ (64 - s) := ⟨_, rfl⟩
  have hlo2 : (x0 : Int) / 2 ^ ss = (lo : Int) := by rw [hlo, hss.2]; simp
  have hword := shl_word x1 x0 s (by omega) hx0
  rw [← hy1, ← hlo] at hword hX1
  have hor : bits .or .u64 (y1 : Int) (lo : Int) = (X1 : Int) := by
    rw [bits_or y1 lo (by rw [hy1]; exact Nat.mod_lt _ W64_pos) (by omega), hword.1, hX1]
  have hwX0 : IntKind.u64.wrap ((x0 : Int) * 2 ^ s) = (X0 : Int) := by rw [hX0, IntKind.wrap_u64]; unfold W64; simp
  have hwd : IntKind.u64.wrap ((y : Int) * 2 ^ s) = (d : Int) := by
    have e : (y : Int) * 2 ^ s = ((y * 2 ^ s : Nat) : Int) := by simp
    rw [e, ← hd]
    unfold W64 at hdW
    exact wrap64_small _ (by omega) (by omega)
  clear hss hy1 hlo hword hX1 hX0 hd
  clear hm hs0 hs hrs ht1 ht0 ha0 hc ha1 ht hp1 hp0 hr0 hb ha2 hr1
  rcases (show r1 = 0 ∨ r1 = 1 by omega) with rfl | rfl
  · rw [show ((0 : Nat) : Int) = 0 from rfl] at HSUB2
    have hrw : r0 < W64 := hr0W
    rcases Nat.lt_or_ge r0 d with hlt | hge
    · obtain ⟨e1, e2⟩ := div_of (q := t) (r := r0) (y := d) (t := X1 * W64 + X0) (by omega) hlt
      obtain ⟨e3, e4⟩ := div_of h hr
      have HQR : Hid ((t : Int) = (q : Int) ∧ (r0 : Int) = (r : Int)) := ⟨by omega, by omega⟩
      have hd1 : decide ((d : Int) ≤ (r0 : Int)) = false := by simp; omega
      have hd2 : decide (d ≤ r0) = false := by simp; omega
      obtain rfl : r0 = r := by omega
      obtain rfl : t = q := by omega
      clear e1 e2 e3 e4 he h
      go_enter Tryz.func83, Tryz.ntmps83
      go_wp2_with fail
      refine HN.out.mono ?_
      rintro e w' ⟨rfl, rfl⟩
      go_wp2_with fail
      refine (HMUL1.out _).mono ?_
      rintro e w' ⟨rfl, rfl⟩
      go_wp2_with fail
      refine (HADD1.out _).mono ?_
      rintro e w' ⟨rfl, rfl⟩
      go_wp2_with fail
      refine (HADD2.out _).mono ?_
      rintro e w' ⟨rfl, rfl⟩
      go_wp2_with fail
      refine (HMUL2.out _).mono ?_
      rintro e w' ⟨rfl, rfl⟩
      go_wp2_with fail
      refine (HSUB1.out _).mono ?_
      rintro e w' ⟨rfl, rfl⟩
      go_wp2_with fail
      refine (HSUB2.out _).mono ?_
      rintro e w' ⟨rfl, rfl⟩
      go_wp2
      go_ret2
      refine ⟨?_, rfl⟩
      rfl
    · obtain ⟨r2, hr2⟩ : ∃ r2 : Nat, (r0 : Int) - (d : Int) = (r2 : Int) ∧ r0 = r2 + d := ⟨r0 - d, by omega, by omega⟩
      have hr21 := hr2.1
      obtain ⟨e1, e2⟩ := div_of (q := t + 1) (r := r2) (y := d) (t := X1 * W64 + X0) (by rw [Nat.add_mul]; omega) (by omega)
      obtain ⟨e3, e4⟩ := div_of h hr
      have hd1 : decide ((d : Int) ≤ (r0 : Int)) = true := by simp; omega
      have hd2 : decide (d ≤ r0) = true := by simp; omega
      have ht2 : (t : Int) + 1 = (q : Int) := by omega
      unfold W64 at hqW hdW hrw
      have hwt : IntKind.u64.wrap (q : Int) = (q : Int) := wrap64_small _ (by omega) (by omega)
      have hwr : IntKind.u64.wrap (r2 : Int) = (r2 : Int) := wrap64_small _ (by omega) (by omega)
      obtain rfl : r2 = r := by omega
      have HQR : Hid ((q : Int) = (q : Int) ∧ (r2 : Int) = (r2 : Int)) := ⟨rfl, rfl⟩
      clear e1 e2 e3 e4 he h hr2
      go_enter Tryz.func83, Tryz.ntmps83
      go_wp2_with fail
      refine HN.out.mono ?_
      rintro e w' ⟨rfl, rfl⟩
      go_wp2_with fail
      refine (HMUL1.out _).mono ?_
      rintro e w' ⟨rfl, rfl⟩
      go_wp2_with fail
      refine (HADD1.out _).mono ?_
      rintro e w' ⟨rfl, rfl⟩
      go_wp2_with fail
      refine (HADD2.out _).mono ?_
      rintro e w' ⟨rfl, rfl⟩
      go_wp2_with fail
      refine (HMUL2.out _).mono ?_
      rintro e w' ⟨rfl, rfl⟩
      go_wp2_with fail
      refine (HSUB1.out _).mono ?_
      rintro e w' ⟨rfl, rfl⟩
      go_wp2_with fail
      refine (HSUB2.out _).mono ?_
      rintro e w' ⟨rfl, rfl⟩
      go_wp2
      go_ret2
      refine ⟨?_, rfl⟩
      rfl
  · rw [show ((1 : Nat) : Int) = 1 from rfl] at HSUB2
    obtain ⟨r2, hr2⟩ : ∃ r2 : Nat, r2 + d = r0 + W64 := ⟨r0 + W64 - d, by omega⟩
    have hwr : IntKind.u64.wrap ((r0 : Int) - (d : Int)) = (r2 : Int) := by
      rw [IntKind.wrap_u64]
      unfold W64 at hr2 hr0W hdW
      omega
    rcases Nat.lt_or_ge r2 d with hlt | hge
    · obtain ⟨e1, e2⟩ := div_of (q := t + 1) (r := r2) (y := d) (t := X1 * W64 + X0) (by rw [Nat.add_mul]; omega) hlt
      obtain ⟨e3, e4⟩ := div_of h hr
      have hd1 : decide ((d : Int) ≤ (r2 : Int)) = false := by simp; omega
      have hd2 : decide (d ≤ r2) = false := by simp; omega
      have ht2 : (t : Int) + 1 = (q : Int) := by omega
      unfold W64 at hqW
      have hwt : IntKind.u64.wrap (q : Int) = (q : Int) := wrap64_small _ (by omega) (by omega)
      obtain rfl : r2 = r := by omega
      have HQR : Hid ((q : Int) = (q : Int) ∧ (r2 : Int) = (r2 : Int)) := ⟨rfl, rfl⟩
      clear e1 e2 e3 e4 he h hr2
      go_enter Tryz.func83, Tryz.ntmps83
      go_wp2_with fail
      refine HN.out.mono ?_
      rintro e w' ⟨rfl, rfl⟩
      go_wp2_with fail
      refine (HMUL1.out _).mono ?_
      rintro e w' ⟨rfl, rfl⟩
      go_wp2_with fail
      refine (HADD1.out _).mono ?_
      rintro e w' ⟨rfl, rfl⟩
      go_wp2_with fail
      refine (HADD2.out _).mono ?_
      rintro e w' ⟨rfl, rfl⟩
      go_wp2_with fail
      refine (HMUL2.out _).mono ?_
      rintro e w' ⟨rfl, rfl⟩
      go_wp2_with fail
      refine (HSUB1.out _).mono ?_
      rintro e w' ⟨rfl, rfl⟩
      go_wp2_with fail
      refine (HSUB2.out _).mono ?_
      rintro e w' ⟨rfl, rfl⟩
      go_wp2
      go_ret2
      refine ⟨?_, rfl⟩
      rfl
    · obtain ⟨r3, hr3⟩ : ∃ r3 : Nat, (r2 : Int) - (d : Int) = (r3 : Int) ∧ r2 = r3 + d := ⟨r2 - d, by omega, by omega⟩
      have hr31 := hr3.1
      obtain ⟨e1, e2⟩ := div_of (q := t + 2) (r := r3) (y := d) (t := X1 * W64 + X0) (by rw [Nat.add_mul]; omega) (by omega)
      obtain ⟨e3, e4⟩ := div_of h hr
      have hd1 : decide ((d : Int) ≤ (r2 : Int)) = true := by simp; omega
      have hd2 : decide (d ≤ r2) = true := by simp; omega
      obtain ⟨tq, htq⟩ : ∃ tq : Nat, (t : Int) + 1 = (tq : Int) ∧ tq = t + 1 := ⟨t + 1, by omega, rfl⟩
      have htq1 := htq.1
      have ht2 : (tq : Int) + 1 = (q : Int) := by omega
      unfold W64 at hqW hdW
      have hwt0 : IntKind.u64.wrap (tq : Int) = (tq : Int) := wrap64_small _ (by omega) (by omega)
      have hwt : IntKind.u64.wrap (q : Int) = (q : Int) := wrap64_small _ (by omega) (by omega)
      have hwr3 : IntKind.u64.wrap (r3 : Int) = (r3 : Int) := wrap64_small _ (by omega) (by omega)
      obtain rfl : r3 = r := by omega
      have HQR : Hid ((q : Int) = (q : Int) ∧ (r3 : Int) = (r3 : Int)) := ⟨rfl, rfl⟩
      clear e1 e2 e3 e4 he h hr2 hr3 htq
      go_enter Tryz.func83, Tryz.ntmps83
      go_wp2_with fail
      refine HN.out.mono ?_
      rintro e w' ⟨rfl, rfl⟩
      go_wp2_with fail
      refine (HMUL1.out _).mono ?_
      rintro e w' ⟨rfl, rfl⟩
      go_wp2_with fail
      refine (HADD1.out _).mono ?_
      rintro e w' ⟨rfl, rfl⟩
      go_wp2_with fail
      refine (HADD2.out _).mono ?_
      rintro e w' ⟨rfl, rfl⟩
      go_wp2_with fail
      refine (HMUL2.out _).mono ?_
      rintro e w' ⟨rfl, rfl⟩
      go_wp2_with fail
      refine (HSUB1.out _).mono ?_
      rintro e w' ⟨rfl, rfl⟩
      go_wp2_with fail
      refine (HSUB2.out _).mono ?_
      rintro e w' ⟨rfl, rfl⟩
      go_wp2
      go_ret2
      refine ⟨?_, rfl⟩
      rfl
/-- divWW, in all ways. -/
theorem div_ww (x1 x0 y : Nat) (h1 : x1 < y) (hx0 : x0 < W64) (hy : y < W64) (w : World) :
    Calls Tryz.prog 83 #[.int .u64 (x1 : Int), .int .u64 (x0 : Int), .int .u64 (y : Int), .int .u64 ((recOf y : Nat) : Int)] w (QRPost ((x1 * W64 + x0) / y) ((x1 * W64 + x0) % y) w) := by
  have hy0 : 0 < y := by omega
  obtain ⟨h2, h3, h4⟩ := nz_norm y hy0 hy
  obtain ⟨s, hs⟩ : ∃ s, s = nz y := ⟨_, rfl⟩
  have hm : recOf y = ((18446744073709551615 - y * 2 ^ s) * W64 + 18446744073709551615) / (y * 2 ^ s) := by rw [hs]; rfl
  rw [← hs] at h2 h3 h4
  obtain ⟨N, hN⟩ : ∃ N, N = x1 * W64 + x0 := ⟨_, rfl⟩
  rw [← hN]
  have hp : 0 < 2 ^ s := Nat.pow_pos (by decide)
  have hr : N * 2 ^ s % (y * 2 ^ s) < y * 2 ^ s := Nat.mod_lt _ (by omega)
  have hdm := (Nat.div_add_mod' (N * 2 ^ s) (y * 2 ^ s)).symm
  obtain ⟨e1, e2⟩ := shift_back N y s _ _ hdm hr
  rw [← e1, ← e2]
  by_cases hs0 : s = 0
  · have e3 : y * 2 ^ s = y := by rw [hs0]; simp
    have e4 : N * 2 ^ s = N := by rw [hs0]; simp
    rw [e4, e3] at hdm hr ⊢
    rw [e3] at h2 hm
    exact ww_zero x1 x0 y s x1 x0 y _ _ _ hs hy0 hy hx0 hs0 rfl rfl rfl h2 hy h1 hm (by rw [← hN]; exact hdm) hr w
  · have hX : (x1 * 2 ^ s % W64 + x0 / 2 ^ (64 - s)) * W64 + x0 * 2 ^ s % W64 = N * 2 ^ s := by
      have k1 := shl_parts x0 s (by omega)
      have k2 : x1 * 2 ^ s < W64 := Nat.lt_of_le_of_lt (Nat.mul_le_mul_right _ (Nat.le_of_lt h1)) h3
      rw [Nat.mod_eq_of_lt k2, hN, Nat.add_mul, Nat.add_mul, k1]
      grind
    have hlt : x1 * 2 ^ s % W64 + x0 / 2 ^ (64 - s) < y * 2 ^ s := by
      have k3 : N < y * W64 := by
        have : (x1 + 1) * W64 ≤ y * W64 := Nat.mul_le_mul_right _ h1
        rw [Nat.add_mul] at this
        omega
      have k4 : N * 2 ^ s < y * W64 * 2 ^ s := Nat.mul_lt_mul_of_pos_right k3 hp
      have k5 : (x1 * 2 ^ s % W64 + x0 / 2 ^ (64 - s)) * W64 < y * 2 ^ s * W64 := by
        have e5 : y * W64 * 2 ^ s = y * 2 ^ s * W64 := by grind
        omega
      exact Nat.lt_of_mul_lt_mul_right k5
    exact ww_pos x1 x0 y s _ _ _ _ _ _ hs hy0 hy hx0 (by omega) (by omega) rfl rfl rfl h2 h3 hlt hm (by rw [hX]; exact hdm) hr w
end Go.Proofs.YtndeolcamgnmdaaGreatDoor
