/- The reference's digits and low word of a magnitude. -/
import Derived.Test.YtndeolcamgnmdaaIntGet
import Derived.Test.YtndeolcamgnmdaaDig
namespace Go.Proofs.Ytndeolcamgnmdaa
open Go.RowKit
theorem digit_any (B g n c : Nat) (l : List Nat) (i : Nat) (w : World) (h : OB w B (.slice (some ⟨g, 0, none⟩) n c) l) (hn : n = l.length) (hi : i ≤ 4000000000) (hm : n ≤ 4000000000) :
    Calls Try.prog 34 #[.slice (some ⟨g, 0, none⟩) n c, .int .i64 (i : Int)] w (IntPost ((dig (natOf l) i : Nat) : Int) w) := by
  obtain ⟨d, hd⟩ : ∃ d, d = dig (natOf l) i := ⟨_, rfl⟩
  rw [← hd]
  have hdl : d < 256 := by rw [hd]; exact dig_lt _ _
  by_cases hlt : i < n
  · obtain ⟨k, hk⟩ : ∃ k, n = k + i + 1 := ⟨n - 1 - i, by omega⟩
    have hkl : k < l.length := by omega
    have hc := h.cell k hkl
    rw [← dig_at l i h.2.2 k hkl (by omega), ← hd] at hc
    have e1 : (n : Int) - 1 - (i : Int) = (k : Int) := by omega
    have hk1 : (k : Int) < (n : Int) := by omega
    have hd1 : decide (n ≤ i) = false := by simp; omega
    have hd2 : decide ((n : Int) ≤ (i : Int)) = false := by simp; omega
    clear h hn hkl hk hd
    go_enter Try.func34, Try.ntmps34
    go_wp2
    go_ret
    exact ⟨rfl, rfl⟩
  · have h0 : d = 0 := by rw [hd]; exact dig_over l i h.2.2 (by omega)
    subst h0
    have hd1 : decide (n ≤ i) = true := by simp; omega
    have hd2 : decide ((n : Int) ≤ (i : Int)) = true := by simp; omega
    clear h hn hd
    go_enter Try.func34, Try.ntmps34
    go_wp2
    go_ret
    exact ⟨rfl, rfl⟩
theorem or_low (u d : Nat) (hu : u < 72057594037927936) (hd : d < 256) : bits .or .u64 ((u : Int) * 256) (d : Int) = ((u * 256 + d : Nat) : Int) := by
  have e1 := u64_or8 (y := (d : Int)) (x := (u : Int) * 256) (by omega) (by omega) (by omega) (by omega) (by omega)
  have ec : bits .or .u64 ((u : Int) * 256) (d : Int) = bits .or .u64 (d : Int) ((u : Int) * 256) := by simp only [bits, BitVec.or_comm]
  rw [ec, e1]; simp; omega
set_option maxHeartbeats 400000 in
theorem spec_low (B : Nat) (v : Value) (neg : Bool) (l : List Nat) (w : World) (hv : SInt w B v neg l) (hl : l.length ≤ 4000000000) :
    Calls Try.prog 21 #[v] w fun e w' => e = .returned (.int .u64 ((natOf l % W64 : Nat) : Int)) ∧ Below w.heap.size w w' := by
  obtain ⟨vs, rfl, hob, hh, hn⟩ := hv
  obtain ⟨g, c, hvs, hg1, hg2, _, _⟩ := hob.form
  obtain ⟨m, hm⟩ : ∃ m, m = l.length := ⟨_, rfl⟩
  rw [← hm] at hvs
  subst hvs
  have HOB := Lib.hid hob
  have HM := Lib.hid hm
  have hm1 : m ≤ 4000000000 := by omega
  have HB0 := Lib.hid (Blk.new w 24 #[.bool neg, .slice (some ⟨g, 0, none⟩) m c])
  clear hob hm hh hn hl
  go_enter Try.func21, Try.ntmps21
  go_wp2_with fail
  go_loop [3, 4] (fun uv iv => ∃ (k u : Nat), k ≤ 8 ∧ iv = .int .i64 (7 - (k : Int)) ∧ uv = .int .u64 (u : Int) ∧ Hid (u = natOf l / 256 ^ (8 - k) % 256 ^ k)) (fun _ iv => (intOf iv + 1).toNat)
  case atStart => exact ⟨0, 0, by omega, by simp, rfl, by simp [Hid, Nat.mod_one]⟩
  case round =>
    obtain ⟨k, u, hk, rfl, rfl, hu⟩ := hrel
    by_cases hk8 : k < 8
    · obtain ⟨i, hi⟩ : ∃ i : Nat, 8 = i + k + 1 := ⟨7 - k, by omega⟩
      have e : (7 : Int) - (k : Int) = (i : Int) := by omega
      have hi7 : i ≤ 7 := by omega
      rw [e]
      have hdc := digit_any B g m c l i (w.alloc (.cells #[.bool neg, .slice (some ⟨g, 0, none⟩) m c] 24)) (HOB.out.below ((Below.refl _ w).alloc (Nat.le_refl _) _)) HM.out (by omega) (by omega)
      unfold IntPost at hdc
      obtain ⟨d, hd⟩ : ∃ d, d = dig (natOf l) i := ⟨_, rfl⟩
      have hd256 : d < 256 := by rw [hd]; exact dig_lt _ _
      rw [← hd] at hdc
      have HDC := Lib.hid hdc
      have HD := Lib.hid hd
      have hu56 : u < 72057594037927936 := by
        have h1 := hu.out
        have h2 : u < 256 ^ k := by rw [h1]; exact Nat.mod_lt _ (Nat.pow_pos (by omega))
        have h3 : (256 : Nat) ^ k ≤ 256 ^ 7 := Nat.pow_le_pow_right (by omega) (by omega)
        have h4 : (256 : Nat) ^ 7 = 72057594037927936 := by decide
        omega
      have HOR := Lib.hid (or_low u d hu56 hd256)
      have hw : IntKind.u64.wrap (d : Int) = (d : Int) := wrap64_small _ (by omega) (by omega)
      have HE := Lib.hid e
      have HI := Lib.hid hi
      clear hdc hd e hi
      go_wp2_with fail
      refine HDC.out.mono ?_
      rintro e w' ⟨rfl, rfl⟩
      go_wp2
      go_round
      case rel =>
        refine ⟨k + 1, u * 256 + d, by omega, ?_, ?_, ?_⟩
        · exact congrArg (Value.int .i64) (by have := HE.out; omega)
        · exact congrArg (Value.int .u64) HOR.out
        · have h1 := low_step (natOf l) i k
          have h2 := HI.out
          unfold Hid
          rw [hu.out, HD.out, show 8 - k = i + 1 by omega, h1, show 8 - (k + 1) = i by omega]
      case measure => simp [intOf]
    · obtain rfl : k = 8 := by omega
      have e : (7 : Int) - ((8 : Nat) : Int) = -1 := by omega
      rw [e]
      clear e
      go_wp2
      go_ret
      refine ⟨?_, (Below.refl _ w).alloc (Nat.le_refl _) _⟩
      have h1 := hu.out
      rw [W64_eq]
      rw [h1]; simp
end Go.Proofs.Ytndeolcamgnmdaa
