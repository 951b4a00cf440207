/- Single bits of a mantissa: bit, sticky, msb64, makeAcc. -/
import Derived.Test.YtndeolcamgnmdaaLshVU
namespace Go.Proofs.Ytndeolcamgnmdaa
open Go.RowKit
theorem make_acc (b : Bool) (w : World) : Calls Try.prog 77 #[.bool b] w fun e w' => (∃ acc : Int, e = .returned (.int .i8 acc)) ∧ w = w' := by
  cases b
  all_goals
    go_enter Try.func77, Try.ntmps77
    go_wp2
    go_ret
    exact ⟨⟨_, rfl⟩, rfl⟩
theorem and_one (y : Nat) (hy : y < W64) : bits .and .u64 (y : Int) 1 = ((y % 2 : Nat) : Int) := by
  have h := u64_and_nat y 1 hy (by omega)
  rw [show ((1 : Nat) : Int) = 1 from rfl] at h
  rw [h, show (1 : Nat) = 2 ^ 1 - 1 by decide, Nat.and_two_pow_sub_one_eq_mod]
theorem nat_bit (B gx cx n j r : Nat) (xs : List Nat) (w : World) (hx : OW w B (.slice (some ⟨gx, 0, none⟩) n cx) xs) (hj : j < xs.length) (hr : r < 64) (hn : n ≤ 100000) :
    Calls Try.prog 83 #[.slice (some ⟨gx, 0, none⟩) n cx, .int .u64 ((64 * j + r : Nat) : Int)] w fun e w' => e = .returned (.int .u64 (((xs[j]'hj) / 2 ^ r % 2 : Nat) : Int)) ∧ w = w' := by
  have hnl := hx.len
  have cx0 := hx.cell j hj
  have hx64 := hx.2 _ (List.getElem_mem hj)
  obtain ⟨x, hxd⟩ : ∃ x, x = xs[j]'hj := ⟨_, rfl⟩
  rw [← hxd] at cx0 hx64 ⊢
  obtain ⟨i, hi⟩ : ∃ i, i = 64 * j + r := ⟨_, rfl⟩
  rw [← hi]
  have hq : (i : Int) / 64 = (j : Int) := by omega
  have hq2 : (i : Int) % 64 = (r : Int) := by omega
  have hq3 : i / 64 = j := by omega
  have hq4 : i % 64 = r := by omega
  have hjn : (j : Int) < (n : Int) := by omega
  have hd : decide (n ≤ j) = false := by simp; omega
  have hd2 : decide ((n : Int) ≤ (j : Int)) = false := by simp; omega
  have hw : IntKind.u64.wrap (n : Int) = (n : Int) := wrap64_small _ (by omega) (by omega)
  have hxr : x / 2 ^ r < W64 := Nat.lt_of_le_of_lt (Nat.div_le_self _ _) hx64
  have HA := Lib.hid (and_one (x / 2 ^ r) hxr)
  clear hx hxd hx64 hi hxr
  go_enter Try.func83, Try.ntmps83
  go_wp2
  go_ret
  exact ⟨ret_int HA.out, rfl⟩
theorem nat_upto (w : World) (a : Option Addr) (n c k : Nat) (hk : k ≤ c) :
    (Instr.slice 72 (.slice a n c) none (some (.int .u64 (k : Int))) none).run Try.prog w = .ok (.slice (if c = 0 then a else a.map (·.add 0)) k c) w := by
  simp [Instr.slice, run_underlying Try.underlying72, Instr.sliceBounds, Instr.sliceBound, asIntOf, hk, Try.sizeOf106]
theorem nat_upto_at (w : World) (g n c k : Nat) (hk : k ≤ c) :
    (Instr.slice 72 (.slice (some ⟨g, 0, none⟩) n c) none (some (.int .u64 (k : Int))) none).run Try.prog w = .ok (.slice (some ⟨g, 0, none⟩) k c) w := by
  simp [Instr.slice, run_underlying Try.underlying72, Instr.sliceBounds, Instr.sliceBound, asIntOf, hk, Try.sizeOf106, Addr.add_lit]
/-- Is a bit set below bit 64 j + r? -/
def stick (xs : List Nat) (j r : Nat) : Nat := if (∀ x ∈ xs.take j, x = 0) ∧ (xs.getD j 0) % 2 ^ r = 0 then 0 else 1
set_option maxRecDepth 20000 in
set_option maxHeartbeats 2000000 in
theorem nat_sticky (B gx cx n j r : Nat) (xs : List Nat) (w : World) (hx : OW w B (.slice (some ⟨gx, 0, none⟩) n cx) xs) (hj : j < xs.length) (hr : r < 64) (hn : n ≤ 100000) :
    Calls Try.prog 69 #[.slice (some ⟨gx, 0, none⟩) n cx, .int .u64 ((64 * j + r : Nat) : Int)] w fun e w' => e = .returned (.int .u64 ((stick xs j r : Nat) : Int)) ∧ w = w' := by
  have hnl := hx.len
  have hcx : n ≤ cx := by
    rcases hx.form with ⟨hv, _⟩ | ⟨_, _, hv, _, _, h1, _⟩
    · simp at hv
    · injection hv with _ _ h3
      omega
  have cx0 := hx.cell j hj
  have hx64 := hx.2 _ (List.getElem_mem hj)
  obtain ⟨x, hxd⟩ : ∃ x, x = xs[j]'hj := ⟨_, rfl⟩
  rw [← hxd] at cx0 hx64
  obtain ⟨i, hi⟩ : ∃ i, i = 64 * j + r := ⟨_, rfl⟩
  rw [← hi]
  have hq : (i : Int) / 64 = (j : Int) := by omega
  have hq2 : (i : Int) % 64 = (r : Int) := by omega
  have hq3 : i / 64 = j := by omega
  have hq4 : i % 64 = r := by omega
  have hjn : (j : Int) < (n : Int) := by omega
  have hd : decide (n ≤ j) = false := by simp; omega
  have hd2 : decide ((n : Int) ≤ (j : Int)) = false := by simp; omega
  have hw : IntKind.u64.wrap (n : Int) = (n : Int) := wrap64_small _ (by omega) (by omega)
  have hsl := fun W => nat_upto_at W gx n cx j (by omega)
  obtain ⟨q, hq5⟩ : ∃ q : Nat, (64 : Int) - (r : Int) = (q : Int) ∧ q = 64 - r := ⟨64 - r, by omega, rfl⟩
  have hq6 := hq5.1
  have hwq : IntKind.u64.wrap (q : Int) = (q : Int) := wrap64_small _ (by omega) (by omega)
  have hmq : min q 64 = q := by omega
  obtain ⟨y, hy⟩ : ∃ y, y = x * 2 ^ q % W64 := ⟨_, rfl⟩
  have hwy : IntKind.u64.wrap ((x : Int) * 2 ^ q) = (y : Int) := by rw [hy, IntKind.wrap_u64]; unfold W64; simp
  have HST : Hid (stick xs j r = if (∀ x ∈ xs.take j, x = 0) ∧ y = 0 then 0 else 1) := by
    unfold Hid stick
    have e : xs.getD j 0 = x := by rw [List.getD_eq_getElem?_getD, List.getElem?_eq_getElem hj, ← hxd]; rfl
    have e2 : y = 0 ↔ x % 2 ^ r = 0 := by
      rw [hy, shl_mod x q (by omega), show 64 - q = r by omega]
      have : 0 < 2 ^ q := Nat.pow_pos (by decide)
      constructor
      · intro h; rcases Nat.mul_eq_zero.1 h with h | h <;> omega
      · intro h; rw [h, Nat.mul_zero]
    simp only [e, e2]
  have HX := Lib.hid hx
  have HNL := Lib.hid hnl
  have HXL := Lib.hid hj
  obtain ⟨st, hst⟩ : ∃ st, st = stick xs j r := ⟨_, rfl⟩
  rw [← hst] at HST ⊢
  clear hx hxd hx64 hi hq5 hy hst hnl hj
  go_enter Try.func69, Try.ntmps69
  go_wp2_with fail
  go_loop [22] (fun iv => ∃ (k : Nat), k ≤ j ∧ iv = .int .i64 (k : Int) ∧ Hid (∀ x ∈ xs.take k, x = 0))
    (fun iv => j - (intOf iv).toNat)
  case atStart => exact ⟨0, Nat.zero_le _, rfl, by simp [Hid]⟩
  case round =>
    obtain ⟨k, hk, rfl, hz⟩ := hrel
    by_cases hkj : k < j
    · have hkx : k < xs.length := by have := HXL.out; omega
      obtain ⟨y1, hy1⟩ : ∃ y1, y1 = xs[k]'hkx := ⟨_, rfl⟩
      have c1 := HX.out.cell k hkx
      rw [← hy1] at c1
      have hkj' : (k : Int) < (j : Int) := by omega
      by_cases h0 : y1 = 0
      · subst h0
        have HY := Lib.hid hy1
        clear hy1
        go_wp2
        go_round
        case rel =>
          refine ⟨k + 1, by omega, by go_num, ?_⟩
          intro z hzm
          rw [List.take_succ_eq_append_getElem hkx, ← HY.out] at hzm
          rcases List.mem_append.1 hzm with h | h
          · exact hz.out z h
          · simpa using h
        case measure => simp [intOf]; omega
      · have hb : ((y1 : Int) != 0) = true := by rw [bne_iff_ne]; omega
        have HS1 : Hid (st = 1) := by
          unfold Hid
          rw [HST.out, if_neg]
          rintro ⟨h, _⟩
          exact h0 (h y1 (by rw [hy1]; exact List.mem_take_iff_getElem.2 ⟨k, by have := HXL.out; omega, rfl⟩))
        clear hy1
        go_wp2
        go_ret
        exact ⟨by rw [HS1.out]; rfl, rfl⟩
    · obtain rfl : k = j := by omega
      by_cases h0 : y = 0
      · have hb : ((y : Int) != 0) = false := by rw [h0]; rfl
        have HS1 : Hid (st = 0) := by
          unfold Hid
          rw [HST.out, if_pos ⟨hz.out, h0⟩]
        clear h0
        go_wp2
        go_ret
        exact ⟨by rw [HS1.out]; rfl, rfl⟩
      · have hb : ((y : Int) != 0) = true := by rw [bne_iff_ne]; omega
        have HS1 : Hid (st = 1) := by
          unfold Hid
          rw [HST.out, if_neg (fun h => h0 h.2)]
        clear h0
        go_wp2
        go_ret
        exact ⟨by rw [HS1.out]; rfl, rfl⟩
theorem msb_64 (B gx cx n m : Nat) (xs : List Nat) (w : World) (hx : OW w B (.slice (some ⟨gx, 0, none⟩) n cx) xs) (hm : n = m + 1) (hj : m < xs.length) (hn : n ≤ 100000) :
    Calls Try.prog 71 #[.slice (some ⟨gx, 0, none⟩) n cx] w fun e w' => e = .returned (.int .u64 ((xs[m]'hj : Nat) : Int)) ∧ w = w' := by
  have cx0 := hx.cell m hj
  obtain ⟨x, hxd⟩ : ∃ x, x = xs[m]'hj := ⟨_, rfl⟩
  rw [← hxd] at cx0 ⊢
  have hsub : (n : Int) - 1 = (m : Int) := by omega
  have hmn : (m : Int) < (n : Int) := by omega
  have hd : decide ((m : Int) < 0) = false := by simp
  clear hx hxd hm
  go_enter Try.func71, Try.ntmps71
  go_wp2
  go_ret
  exact ⟨rfl, rfl⟩
end Go.Proofs.Ytndeolcamgnmdaa
