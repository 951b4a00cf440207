/- The reference's digits, bits, length and low word of a magnitude. -/
import Derived.Test.YtbdnmfabmdbamaaIntSign
import Derived.Test.YtbdnmfabmdbamaaDig
namespace Go.Proofs.Ytbdnmfabmdbamaa
open Go.RowKit
theorem digit_any (B g n c : Nat) (l : List Nat) (i : Nat) (w : World) (h : OB w B (.slice (some ⟨g, 0, none⟩) n c) l) (hn : n = l.length) (hi : i ≤ 1000000) (hm : n ≤ 1000000) :
    Calls Try.prog 59 #[.slice (some ⟨g, 0, none⟩) n c, .int .i64 (i : Int)] w (IntPost ((dig (natOf l) i : Nat) : Int) w) := by
  obtain ⟨d, hd⟩ : ∃ d, d = dig (natOf l) i := ⟨_, rfl⟩
  rw [← hd]
  have hdl : d < 256 := by rw [hd]; exact dig_lt _ _
  by_cases hlt : i < n
  · obtain ⟨k, hk⟩ : ∃ k, n = k + i + 1 := ⟨n - 1 - i, by omega⟩
    have hkl : k < l.length := by omega
    have hc := h.cell k hkl
    rw [← dig_at l i h.2.2 k hkl (by omega), ← hd] at hc
    have e1 : (n : Int) - 1 - (i : Int) = (k : Int) := by omega
    have hk1 : (k : Int) < (n : Int) := by omega
    have hd1 : decide (n ≤ i) = false := by simp; omega
    have hd2 : decide ((n : Int) ≤ (i : Int)) = false := by simp; omega
    clear h hn hkl hk hd
    go_enter Try.func59, Try.ntmps59
    go_wp2
    go_ret
    exact ⟨rfl, rfl⟩
  · have h0 : d = 0 := by rw [hd]; exact dig_over l i h.2.2 (by omega)
    subst h0
    have hd1 : decide (n ≤ i) = true := by simp; omega
    have hd2 : decide ((n : Int) ≤ (i : Int)) = true := by simp; omega
    clear h hn hd
    go_enter Try.func59, Try.ntmps59
    go_wp2
    go_ret
    exact ⟨rfl, rfl⟩
theorem bit_shift (x i k : Nat) (hx : x < 256) (hk : k = i % 8) : bits .and .i64 ((x : Int) / 2 ^ (i % 8)) 1 = ((x / 2 ^ k % 2 : Nat) : Int) := by
  rw [← hk]
  have hk : k < 8 := by omega
  rw [show (x : Int) / 2 ^ k = ((x / 2 ^ k : Nat) : Int) by simp]
  have hc : k = 0 ∨ k = 1 ∨ k = 2 ∨ k = 3 ∨ k = 4 ∨ k = 5 ∨ k = 6 ∨ k = 7 := by omega
  have hall : ∀ y : Fin 256, bits .and .i64 ((y.val : Nat) : Int) 1 = ((y.val % 2 : Nat) : Int) := by decide +kernel
  have h1 : x / 2 ^ k < 256 := Nat.lt_of_le_of_lt (Nat.div_le_self _ _) hx
  exact hall ⟨x / 2 ^ k, h1⟩
theorem bit_any (B g n c : Nat) (l : List Nat) (i : Nat) (w : World) (h : OB w B (.slice (some ⟨g, 0, none⟩) n c) l) (hn : n = l.length) (hi : i ≤ 8000000) (hm : n ≤ 1000000) :
    Calls Try.prog 44 #[.slice (some ⟨g, 0, none⟩) n c, .int .i64 (i : Int)] w (IntPost ((bitAt (natOf l) i : Nat) : Int) w) := by
  have HC := Lib.hid (digit_any B g n c l (i / 8) w h hn (by omega) hm)
  have hb : bitAt (natOf l) i = dig (natOf l) (i / 8) / 2 ^ (i % 8) % 2 := (bit_dig _ _).symm
  obtain ⟨d, hd⟩ : ∃ d, d = dig (natOf l) (i / 8) := ⟨_, rfl⟩
  rw [← hd] at hb
  rw [hb]
  have hdl : d < 256 := by rw [hd]; exact dig_lt _ _
  have HC2 : Hid (Calls Try.prog 59 #[.slice (some ⟨g, 0, none⟩) n c, .int .i64 ((i / 8 : Nat) : Int)] w (IntPost (d : Int) w)) := by rw [hd]; exact HC
  obtain ⟨k, hk⟩ : ∃ k, k = i % 8 := ⟨_, rfl⟩
  have hk8 : k < 8 := by omega
  rw [← hk]
  have HB := Lib.hid (bit_shift d i k hdl hk)
  clear HC hb hd h hn hk
  go_enter Try.func44, Try.ntmps44
  go_wp2_with fail
  refine HC2.out.mono ?_
  unfold IntPost
  rintro e w' ⟨rfl, rfl⟩
  go_wp2
  go_ret
  exact ⟨ret_int HB.out, rfl⟩
theorem or_low (u d : Nat) (hu : u < 72057594037927936) (hd : d < 256) : bits .or .u64 ((u : Int) * 256) (d : Int) = ((u * 256 + d : Nat) : Int) := by
  have e1 := u64_or8 (y := (d : Int)) (x := (u : Int) * 256) (by omega) (by omega) (by omega) (by omega) (by omega)
  have ec : bits .or .u64 ((u : Int) * 256) (d : Int) = bits .or .u64 (d : Int) ((u : Int) * 256) := by simp only [bits, BitVec.or_comm]
  rw [ec, e1]; simp; omega
def LenPost (n : Nat) (w : World) (e : Ending) (w' : World) : Prop := ∃ k : Nat, e = .returned (.int .i64 (k : Int)) ∧ IsLen n k ∧ Below w.heap.size w w'
set_option maxHeartbeats 400000 in
theorem spec_length (B : Nat) (v : Value) (neg : Bool) (l : List Nat) (w : World) (hv : SInt w B v neg l) (hl : l.length ≤ 100000) :
    Calls Try.prog 33 #[v] w (LenPost (natOf l) w) := by
  obtain ⟨vs, rfl, hob, hh, hn⟩ := hv
  obtain ⟨g, c, hvs, hg1, hg2, _, _⟩ := hob.form
  obtain ⟨m, hm⟩ : ∃ m, m = l.length := ⟨_, rfl⟩
  rw [← hm] at hvs
  subst hvs
  have HOB := Lib.hid hob
  have HM := Lib.hid hm
  have hm1 : m ≤ 100000 := by omega
  obtain ⟨k0, hk0⟩ : ∃ k0 : Nat, (8 : Int) * (m : Int) = (k0 : Int) := ⟨8 * m, by omega⟩
  have hk1 : k0 ≤ 800000 := by omega
  have HK := Lib.hid (show k0 = 8 * m by omega)
  have HB0 := Lib.hid (Blk.new w 24 #[.bool neg, .slice (some ⟨g, 0, none⟩) m c])
  clear hob hm hh hn hl
  go_enter Try.func33, Try.ntmps33
  go_wp2_with fail
  go_loop [3] (fun iv => ∃ k : Nat, k ≤ 8 * m ∧ iv = .int .i64 (k : Int) ∧ Hid (natOf l < 2 ^ k)) (fun iv => (intOf iv).toNat)
  case atStart => exact ⟨k0, by have := HK.out; omega, rfl, by rw [HK.out, HM.out]; exact natOf_pow2 l HOB.out.2.2⟩
  case round =>
    obtain ⟨k, hk, rfl, hlt⟩ := hrel
    cases k with
    | zero =>
      go_wp2
      go_ret
      exact ⟨0, rfl, ⟨hlt.out, .inl rfl⟩, (Below.refl _ w).alloc (Nat.le_refl _) _⟩
    | succ j =>
      rw [show ((j + 1 : Nat) : Int) = (j : Int) + 1 by omega]
      have hbc := bit_any B g m c l j (w.alloc (.cells #[.bool neg, .slice (some ⟨g, 0, none⟩) m c] 24)) (HOB.out.below ((Below.refl _ w).alloc (Nat.le_refl _) _)) HM.out (by omega) (by omega)
      unfold IntPost at hbc
      obtain ⟨b, hb⟩ : ∃ b, b = bitAt (natOf l) j := ⟨_, rfl⟩
      have hb2 : b = 0 ∨ b = 1 := by rw [hb]; unfold bitAt; omega
      rw [← hb] at hbc
      have HBC := Lib.hid hbc
      have HBB := Lib.hid hb
      clear hbc hb
      rcases hb2 with rfl | rfl
      · go_wp2_with fail
        refine HBC.out.mono ?_
        rintro e w' ⟨rfl, rfl⟩
        go_wp2
        go_round
        case rel => exact ⟨j, by omega, rfl, bitAt_no hlt.out (by rw [← HBB.out]; decide)⟩
        case measure => simp [intOf]
      · go_wp2_with fail
        refine HBC.out.mono ?_
        rintro e w' ⟨rfl, rfl⟩
        go_wp2
        go_ret
        exact ⟨j + 1, rfl, bitAt_top hlt.out HBB.out.symm, (Below.refl _ w).alloc (Nat.le_refl _) _⟩
set_option maxHeartbeats 400000 in
theorem spec_low (B : Nat) (v : Value) (neg : Bool) (l : List Nat) (w : World) (hv : SInt w B v neg l) (hl : l.length ≤ 100000) :
    Calls Try.prog 34 #[v] w fun e w' => e = .returned (.int .u64 ((natOf l % W64 : Nat) : Int)) ∧ Below w.heap.size w w' := by
  obtain ⟨vs, rfl, hob, hh, hn⟩ := hv
  obtain ⟨g, c, hvs, hg1, hg2, _, _⟩ := hob.form
  obtain ⟨m, hm⟩ : ∃ m, m = l.length := ⟨_, rfl⟩
  rw [← hm] at hvs
  subst hvs
  have HOB := Lib.hid hob
  have HM := Lib.hid hm
  have hm1 : m ≤ 100000 := by omega
  have HB0 := Lib.hid (Blk.new w 24 #[.bool neg, .slice (some ⟨g, 0, none⟩) m c])
  clear hob hm hh hn hl
  go_enter Try.func34, Try.ntmps34
  go_wp2_with fail
  go_loop [3, 4] (fun uv iv => ∃ (k u : Nat), k ≤ 8 ∧ iv = .int .i64 (7 - (k : Int)) ∧ uv = .int .u64 (u : Int) ∧ Hid (u = natOf l / 256 ^ (8 - k) % 256 ^ k)) (fun _ iv => (intOf iv + 1).toNat)
  case atStart => exact ⟨0, 0, by omega, by simp, rfl, by simp [Hid, Nat.mod_one]⟩
  case round =>
    obtain ⟨k, u, hk, rfl, rfl, hu⟩ := hrel
    by_cases hk8 : k < 8
    · obtain ⟨i, hi⟩ : ∃ i : Nat, 8 = i + k + 1 := ⟨7 - k, by omega⟩
      have e : (7 : Int) - (k : Int) = (i : Int) := by omega
      have hi7 : i ≤ 7 := by omega
      rw [e]
      have hdc := digit_any B g m c l i (w.alloc (.cells #[.bool neg, .slice (some ⟨g, 0, none⟩) m c] 24)) (HOB.out.below ((Below.refl _ w).alloc (Nat.le_refl _) _)) HM.out (by omega) (by omega)
      unfold IntPost at hdc
      obtain ⟨d, hd⟩ : ∃ d, d = dig (natOf l) i := ⟨_, rfl⟩
      have hd256 : d < 256 := by rw [hd]; exact dig_lt _ _
      rw [← hd] at hdc
      have HDC := Lib.hid hdc
      have HD := Lib.hid hd
      have hu56 : u < 72057594037927936 := by
        have h1 := hu.out
        have h2 : u < 256 ^ k := by rw [h1]; exact Nat.mod_lt _ (Nat.pow_pos (by omega))
        have h3 : (256 : Nat) ^ k ≤ 256 ^ 7 := Nat.pow_le_pow_right (by omega) (by omega)
        have h4 : (256 : Nat) ^ 7 = 72057594037927936 := by decide
        omega
      have HOR := Lib.hid (or_low u d hu56 hd256)
      have hw : IntKind.u64.wrap (d : Int) = (d : Int) := wrap64_small _ (by omega) (by omega)
      have HE := Lib.hid e
      have HI := Lib.hid hi
      clear hdc hd e hi
      go_wp2_with fail
      refine HDC.out.mono ?_
      rintro e w' ⟨rfl, rfl⟩
      go_wp2
      go_round
      case rel =>
        refine ⟨k + 1, u * 256 + d, by omega, ?_, ?_, ?_⟩
        · exact congrArg (Value.int .i64) (by have := HE.out; omega)
        · exact congrArg (Value.int .u64) HOR.out
        · have h1 := low_step (natOf l) i k
          have h2 := HI.out
          unfold Hid
          rw [hu.out, HD.out, show 8 - k = i + 1 by omega, h1, show 8 - (k + 1) = i by omega]
      case measure => simp [intOf]
    · obtain rfl : k = 8 := by omega
      have e : (7 : Int) - ((8 : Nat) : Int) = -1 := by omega
      rw [e]
      clear e
      go_wp2
      go_ret
      refine ⟨?_, (Below.refl _ w).alloc (Nat.le_refl _) _⟩
      have h1 := hu.out
      rw [W64_eq]
      rw [h1]; simp
/-- What has room without a sign in 64 bits is told, and true; else false. -/
def U64Post (n : Int) (w : World) (e : Ending) (w' : World) : Prop := ∃ (u : Nat) (b : Bool), e = .returned (.tuple #[.int .u64 (u : Int), .bool b]) ∧ ((b = true ∧ (u : Int) = n ∧ u < W64) ∨ (b = false ∧ (n < 0 ∨ (W64 : Int) ≤ n))) ∧ Below w.heap.size w w'
set_option maxHeartbeats 400000 in
theorem spec_uint64 (B : Nat) (v : Value) (neg : Bool) (l : List Nat) (w : World) (hv : SInt w B v neg l) (hl : l.length ≤ 100000) :
    Calls Try.prog 15 #[v] w (U64Post (intOf2 neg l) w) := by
  have HV0 := Lib.hid hv
  obtain ⟨vs, rfl, hob, hh, hn⟩ := hv
  obtain ⟨g, c, hvs, hg1, hg2, _, _⟩ := hob.form
  obtain ⟨m, hm⟩ : ∃ m, m = l.length := ⟨_, rfl⟩
  rw [← hm] at hvs
  subst hvs
  have hb0 := Blk.new w 24 #[.bool neg, .slice (some ⟨g, 0, none⟩) m c]
  have HB0 := Lib.hid hb0
  have HN : Hid (neg = true → 0 < natOf l) := fun e => Nat.pos_of_ne_zero (fun h => hn e ((natOf_eq_zero hh).1 h))
  clear hob hm hh hn hb0
  cases neg with
  | true =>
    go_enter Try.func15, Try.ntmps15
    go_wp2
    go_ret2
    exact ⟨0, false, rfl, .inr ⟨rfl, .inl (by have := HN.out (by first | rfl | trivial); simp [intOf2]; omega)⟩, (Below.refl _ w).alloc (Nat.le_refl _) _⟩
  | false =>
    go_enter Try.func15, Try.ntmps15
    go_wp2_with fail
    refine (spec_length B _ false l _ (HV0.out.below ((Below.refl _ w).alloc (Nat.le_refl _) _)) hl).mono ?_
    rintro e w1 ⟨k, rfl, hk, hb1⟩
    have HK := Lib.hid hk
    obtain ⟨c0, c1, _, _⟩ := blk2 (HB0.out.below hb1 (by simp))
    have HB1 := Lib.hid (((Below.refl _ w).alloc (Nat.le_refl _) _).trans (hb1.mono (by simp)))
    clear hb1 hk
    by_cases h64 : k ≤ 64
    · have hd1 : decide (64 < k) = false := by simp; omega
      have hd2 : decide ((64 : Int) < (k : Int)) = false := by simp; omega
      go_wp2_with fail
      refine (spec_low B _ false l _ (HV0.out.below HB1.out) hl).mono ?_
      rintro e w2 ⟨rfl, hb2⟩
      have hbw := HB1.out.trans (hb2.mono HB1.out.size)
      clear hb2
      go_wp2
      go_ret2
      have hlt : natOf l < W64 := by rw [W64_two]; exact (isLen_le HK.out).1 h64
      exact ⟨natOf l % W64, true, rfl, .inl ⟨rfl, by rw [Nat.mod_eq_of_lt hlt]; simp [intOf2], by rw [Nat.mod_eq_of_lt hlt]; exact hlt⟩, hbw⟩
    · have hd1 : decide (64 < k) = true := by simp; omega
      have hd2 : decide ((64 : Int) < (k : Int)) = true := by simp; omega
      go_wp2
      go_ret2
      have hlt : ¬ natOf l < W64 := by rw [W64_two]; exact fun h => h64 ((isLen_le HK.out).2 h)
      exact ⟨0, false, rfl, .inr ⟨rfl, .inr (by simp [intOf2]; omega)⟩, HB1.out⟩
end Go.Proofs.Ytbdnmfabmdbamaa
