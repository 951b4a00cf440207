/- The reference's digits, bits, length and low word of a magnitude. -/
import Derived.Test.YtndeolcamgnmdaaOrdFull
import Derived.Test.YtndeolcamgnmdaaLow
namespace Go.Proofs.Ytndeolcamgnmdaa
open Go.RowKit
theorem bit_shift (x i k : Nat) (hx : x < 256) (hk : k = i % 8) : bits .and .i64 ((x : Int) / 2 ^ (i % 8)) 1 = ((x / 2 ^ k % 2 : Nat) : Int) := by
  rw [← hk]
  have hk : k < 8 := by omega
  rw [show (x : Int) / 2 ^ k = ((x / 2 ^ k : Nat) : Int) by simp]
  have hc : k = 0 ∨ k = 1 ∨ k = 2 ∨ k = 3 ∨ k = 4 ∨ k = 5 ∨ k = 6 ∨ k = 7 := by omega
  have hall : ∀ y : Fin 256, bits .and .i64 ((y.val : Nat) : Int) 1 = ((y.val % 2 : Nat) : Int) := by decide +kernel
  have h1 : x / 2 ^ k < 256 := Nat.lt_of_le_of_lt (Nat.div_le_self _ _) hx
  exact hall ⟨x / 2 ^ k, h1⟩
theorem bit_any (B g n c : Nat) (l : List Nat) (i : Nat) (w : World) (h : OB w B (.slice (some ⟨g, 0, none⟩) n c) l) (hn : n = l.length) (hi : i ≤ 8000000) (hm : n ≤ 1000000) :
    Calls Try.prog 18 #[.slice (some ⟨g, 0, none⟩) n c, .int .i64 (i : Int)] w (IntPost ((bitAt (natOf l) i : Nat) : Int) w) := by
  have HC := Lib.hid (digit_any B g n c l (i / 8) w h hn (by omega) (by omega))
  have hb : bitAt (natOf l) i = dig (natOf l) (i / 8) / 2 ^ (i % 8) % 2 := (bit_dig _ _).symm
  obtain ⟨d, hd⟩ : ∃ d, d = dig (natOf l) (i / 8) := ⟨_, rfl⟩
  rw [← hd] at hb
  rw [hb]
  have hdl : d < 256 := by rw [hd]; exact dig_lt _ _
  have HC2 : Hid (Calls Try.prog 34 #[.slice (some ⟨g, 0, none⟩) n c, .int .i64 ((i / 8 : Nat) : Int)] w (IntPost (d : Int) w)) := by rw [hd]; exact HC
  obtain ⟨k, hk⟩ : ∃ k, k = i % 8 := ⟨_, rfl⟩
  have hk8 : k < 8 := by omega
  rw [← hk]
  have HB := Lib.hid (bit_shift d i k hdl hk)
  clear HC hb hd h hn hk
  go_enter Try.func18, Try.ntmps18
  go_wp2_with fail
  refine HC2.out.mono ?_
  unfold IntPost
  rintro e w' ⟨rfl, rfl⟩
  go_wp2
  go_ret
  exact ⟨ret_int HB.out, rfl⟩
def LenPost (n : Nat) (w : World) (e : Ending) (w' : World) : Prop := ∃ k : Nat, e = .returned (.int .i64 (k : Int)) ∧ IsLen n k ∧ Below w.heap.size w w'
set_option maxHeartbeats 400000 in
theorem spec_length (B : Nat) (v : Value) (neg : Bool) (l : List Nat) (w : World) (hv : SInt w B v neg l) (hl : l.length ≤ 100000) :
    Calls Try.prog 12 #[v] w (LenPost (natOf l) w) := by
  obtain ⟨vs, rfl, hob, hh, hn⟩ := hv
  obtain ⟨g, c, hvs, hg1, hg2, _, _⟩ := hob.form
  obtain ⟨m, hm⟩ : ∃ m, m = l.length := ⟨_, rfl⟩
  rw [← hm] at hvs
  subst hvs
  have HOB := Lib.hid hob
  have HM := Lib.hid hm
  have hm1 : m ≤ 100000 := by omega
  obtain ⟨k0, hk0⟩ : ∃ k0 : Nat, (8 : Int) * (m : Int) = (k0 : Int) := ⟨8 * m, by omega⟩
  have hk1 : k0 ≤ 800000 := by omega
  have HK := Lib.hid (show k0 = 8 * m by omega)
  have HB0 := Lib.hid (Blk.new w 24 #[.bool neg, .slice (some ⟨g, 0, none⟩) m c])
  clear hob hm hh hn hl
  go_enter Try.func12, Try.ntmps12
  go_wp2_with fail
  go_loop [3] (fun iv => ∃ k : Nat, k ≤ 8 * m ∧ iv = .int .i64 (k : Int) ∧ Hid (natOf l < 2 ^ k)) (fun iv => (intOf iv).toNat)
  case atStart => exact ⟨k0, by have := HK.out; omega, rfl, by rw [HK.out, HM.out]; exact natOf_pow2 l HOB.out.2.2⟩
  case round =>
    obtain ⟨k, hk, rfl, hlt⟩ := hrel
    cases k with
    | zero =>
      go_wp2
      go_ret
      exact ⟨0, rfl, ⟨hlt.out, .inl rfl⟩, (Below.refl _ w).alloc (Nat.le_refl _) _⟩
    | succ j =>
      rw [show ((j + 1 : Nat) : Int) = (j : Int) + 1 by omega]
      have hbc := bit_any B g m c l j (w.alloc (.cells #[.bool neg, .slice (some ⟨g, 0, none⟩) m c] 24)) (HOB.out.below ((Below.refl _ w).alloc (Nat.le_refl _) _)) HM.out (by omega) (by omega)
      unfold IntPost at hbc
      obtain ⟨b, hb⟩ : ∃ b, b = bitAt (natOf l) j := ⟨_, rfl⟩
      have hb2 : b = 0 ∨ b = 1 := by rw [hb]; unfold bitAt; omega
      rw [← hb] at hbc
      have HBC := Lib.hid hbc
      have HBB := Lib.hid hb
      clear hbc hb
      rcases hb2 with rfl | rfl
      · go_wp2_with fail
        refine HBC.out.mono ?_
        rintro e w' ⟨rfl, rfl⟩
        go_wp2
        go_round
        case rel => exact ⟨j, by omega, rfl, bitAt_no hlt.out (by rw [← HBB.out]; decide)⟩
        case measure => simp [intOf]
      · go_wp2_with fail
        refine HBC.out.mono ?_
        rintro e w' ⟨rfl, rfl⟩
        go_wp2
        go_ret
        exact ⟨j + 1, rfl, bitAt_top hlt.out HBB.out.symm, (Below.refl _ w).alloc (Nat.le_refl _) _⟩
end Go.Proofs.Ytndeolcamgnmdaa
