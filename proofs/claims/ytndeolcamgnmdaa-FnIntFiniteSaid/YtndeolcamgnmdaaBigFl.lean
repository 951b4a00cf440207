/- Whether a math/big integer has room in 64 bits; its number. -/
import Derived.Test.YtndeolcamgnmdaaIntGet
import Derived.Test.YtndeolcamgnmdaaLow
namespace Go.Proofs.Ytndeolcamgnmdaa
open Go.RowKit
theorem big_u64 (B b : Nat) (neg : Bool) (ws : List Nat) (w : World) (h : BigI w B b neg ws) :
    Calls Try.prog 55 #[.pointer (some ⟨b, 0, none⟩)] w fun e w' => e = .returned (.int .u64 ((valW ws % W64 : Nat) : Int)) ∧ w = w' := by
  obtain ⟨v, hz, how, htop, _, hlen⟩ := h
  obtain ⟨a, c, hv⟩ := how.shape
  obtain ⟨r, hr⟩ : ∃ r, r = ws.length := ⟨_, rfl⟩
  rw [← hr] at hv
  subst hv
  obtain ⟨c0, c1, f0, f1⟩ := blk2 hz
  have HOW := Lib.hid how
  clear hz how hr
  go_enter Try.func55, Try.ntmps55
  go_wp2_with fail
  refine (low_64 B _ ws _ HOW.out).mono ?_
  rintro e w1 ⟨rfl, rfl⟩
  go_wp2
  go_ret
  exact ⟨rfl, rfl⟩
theorem is_uint64 (B b : Nat) (neg : Bool) (ws : List Nat) (w : World) (h : BigI w B b neg ws) :
    Calls Try.prog 54 #[.pointer (some ⟨b, 0, none⟩)] w (BoolPost (!neg && decide (ws.length ≤ 1)) w) := by
  obtain ⟨v, hz, how, htop, _, hlen⟩ := h
  obtain ⟨a, c, hv⟩ := how.shape
  obtain ⟨r, hr⟩ : ∃ r, r = ws.length := ⟨_, rfl⟩
  rw [← hr] at hv ⊢
  subst hv
  obtain ⟨c0, c1, f0, f1⟩ := blk2 hz
  clear hz how hr hlen htop
  cases neg with
  | true =>
    go_enter Try.func54, Try.ntmps54
    go_wp2
    go_ret
    exact ⟨rfl, rfl⟩
  | false =>
    by_cases h1 : r ≤ 1
    · have d1 : decide ((r : Int) ≤ 1) = true := by simp; omega
      have d2 : decide (r ≤ 1) = true := by simp; omega
      rw [d2]
      go_enter Try.func54, Try.ntmps54
      go_wp2
      go_ret
      exact ⟨rfl, rfl⟩
    · have d1 : decide ((r : Int) ≤ 1) = false := by simp; omega
      have d2 : decide (r ≤ 1) = false := by simp; omega
      rw [d2]
      go_enter Try.func54, Try.ntmps54
      go_wp2
      go_ret
      exact ⟨rfl, rfl⟩
/-- Whether a number with a sign has room in 64 bits: so many words, so great. -/
def in64 (neg : Bool) (r N : Nat) : Bool := decide (r ≤ 1) && (decide (N < 9223372036854775808) || (neg && decide (N = 9223372036854775808)))
set_option maxHeartbeats 2000000 in
theorem is_int64 (B b : Nat) (neg : Bool) (ws : List Nat) (w : World) (h : BigI w B b neg ws) (hN : ws.length ≤ 1 → valW ws < W64) :
    Calls Try.prog 56 #[.pointer (some ⟨b, 0, none⟩)] w (BoolPost (in64 neg ws.length (valW ws)) w) := by
  obtain ⟨v, hz, how, htop, _, hlen⟩ := h
  obtain ⟨a, c, hv⟩ := how.shape
  obtain ⟨r, hr⟩ : ∃ r, r = ws.length := ⟨_, rfl⟩
  rw [← hr] at hv hN ⊢
  subst hv
  obtain ⟨c0, c1, f0, f1⟩ := blk2 hz
  obtain ⟨N, hNe⟩ : ∃ N, N = valW ws := ⟨_, rfl⟩
  rw [← hNe] at hN ⊢
  by_cases h1 : r ≤ 1
  · have d1 : decide ((r : Int) ≤ 1) = true := by simp; omega
    have d2 : decide (r ≤ 1) = true := by simp; omega
    have hN2 := hN h1
    have HLOW := Lib.hid (low_64 B _ ws w how)
    rw [← hNe, Nat.mod_eq_of_lt hN2] at HLOW
    have HD2 := Lib.hid d2
    unfold W64 at hN2
    clear hz how hr hlen htop hN hNe h1 d2
    rcases Nat.lt_or_ge N 9223372036854775808 with h3 | h3
    · have e1 : IntKind.i64.wrap (N : Int) = (N : Int) := wrap_i64_mid _ (by omega) (by omega)
      have d3 : decide ((0 : Int) ≤ (N : Int)) = true := by simp
      have HR : Hid (in64 neg r N = true) := by unfold Hid in64; rw [HD2.out]; simp [h3]
      rw [HR.out]
      clear h3
      go_enter Try.func56, Try.ntmps56
      go_wp2_with fail
      refine HLOW.out.mono ?_
      rintro e w1 ⟨rfl, rfl⟩
      go_wp2
      go_ret
      exact ⟨rfl, rfl⟩
    · obtain ⟨M, hM⟩ : ∃ M : Int, M = (N : Int) - 18446744073709551616 := ⟨_, rfl⟩
      have e1 : IntKind.i64.wrap (N : Int) = M := by rw [IntKind.wrap_i64]; omega
      have hM0 : M < 0 := by omega
      have d3 : decide ((0 : Int) ≤ M) = false := by simp; omega
      cases neg with
      | false =>
        have HR : Hid (in64 false r N = false) := by unfold Hid in64; rw [HD2.out]; simp; omega
        rw [HR.out]
        clear h3 hM hM0
        go_enter Try.func56, Try.ntmps56
        go_wp2_with fail
        refine HLOW.out.mono ?_
        rintro e w1 ⟨rfl, rfl⟩
        go_wp2
        go_ret
        exact ⟨rfl, rfl⟩
      | true =>
        by_cases h4 : N = 9223372036854775808
        · have e2 : IntKind.i64.wrap (-M) = M := by rw [IntKind.wrap_i64]; omega
          have HR : Hid (in64 true r N = true) := by unfold Hid in64; rw [HD2.out]; simp [h4]
          rw [HR.out]
          clear h3 h4 hM hM0
          go_enter Try.func56, Try.ntmps56
          go_wp2_with fail
          refine HLOW.out.mono ?_
          rintro e w1 ⟨rfl, rfl⟩
          go_wp2
          go_ret
          exact ⟨rfl, rfl⟩
        · obtain ⟨M2, hM2⟩ : ∃ M2 : Int, M2 = -M := ⟨_, rfl⟩
          have e2 : IntKind.i64.wrap (-M) = M2 := by rw [IntKind.wrap_i64]; omega
          have e3 : (M == M2) = false := by rw [beq_eq_false_iff_ne]; omega
          have HR : Hid (in64 true r N = false) := by unfold Hid in64; rw [HD2.out]; simp [h4]; omega
          rw [HR.out]
          clear h3 h4 hM hM0 hM2
          go_enter Try.func56, Try.ntmps56
          go_wp2_with fail
          refine HLOW.out.mono ?_
          rintro e w1 ⟨rfl, rfl⟩
          go_wp2
          go_ret
          exact ⟨rfl, rfl⟩
  · have d1 : decide ((r : Int) ≤ 1) = false := by simp; omega
    have HR : Hid (in64 neg r N = false) := by unfold Hid in64; rw [decide_eq_false h1]; rfl
    rw [HR.out]
    clear hz how hr hlen htop hN hNe h1
    go_enter Try.func56, Try.ntmps56
    go_wp2
    go_ret
    exact ⟨rfl, rfl⟩
end Go.Proofs.Ytndeolcamgnmdaa
