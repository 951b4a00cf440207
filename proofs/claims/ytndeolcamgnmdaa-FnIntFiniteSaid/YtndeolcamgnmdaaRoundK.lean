/- Rounding of a mantissa that fits: nothing is cut off. -/
import Derived.Test.YtndeolcamgnmdaaMntBits
namespace Go.Proofs.Ytndeolcamgnmdaa
open Go.RowKit
theorem blk7 {w : World} {b : Nat} {t : TypeId} {x0 x1 x2 x3 x4 x5 x6 : Value} (h : Blk w b t #[x0, x1, x2, x3, x4, x5, x6]) :
    w.cell? ⟨b, 0, none⟩ = some x0 ∧ w.cell? ⟨b, 1, none⟩ = some x1 ∧ w.cell? ⟨b, 2, none⟩ = some x2 ∧ w.cell? ⟨b, 3, none⟩ = some x3 ∧ w.cell? ⟨b, 4, none⟩ = some x4 ∧ w.cell? ⟨b, 5, none⟩ = some x5 ∧ w.cell? ⟨b, 6, none⟩ = some x6 ∧ ∀ i, w.frozen? ⟨b, i, none⟩ = false :=
  ⟨h.cell 0, h.cell 1, h.cell 2, h.cell 3, h.cell 4, h.cell 5, h.cell 6, h.frozen⟩
/-- A float's block. -/
def FlB (w : World) (f p : Nat) (acc : Int) (form : Nat) (neg : Bool) (v : Value) (e : Nat) : Prop :=
  Blk w f 99 #[.int .u32 (p : Int), .int .u8 0, .int .i8 acc, .int .u8 (form : Int), .bool neg, v, .int .i32 (e : Int)]
theorem OW.keep {w w' : World} {B gz m c : Nat} {S : Nat → Prop} {ms : List Nat} (h : OW w B (.slice (some ⟨gz, 0, none⟩) m c) ms) (k : Only S w w') (hs : ¬ S gz) : OW w' B (.slice (some ⟨gz, 0, none⟩) m c) ms :=
  ⟨own_only h.1 k (fun g hg => by simp only [Value.ownBlock, Option.some.injEq] at hg; subst hg; exact hs), h.2⟩
theorem pow_64 (s : Nat) (hs : s < 64) : 2 ^ s < W64 := by rw [W64_two]; exact Nat.pow_lt_pow_right (by decide) hs
theorem one_shl (s : Nat) (hs : s < 64) : IntKind.u64.wrap ((2 : Int) ^ s) = ((2 ^ s : Nat) : Int) := by
  have h := pow_64 s hs
  have e : (2 : Int) ^ s = ((2 ^ s : Nat) : Int) := by simp
  obtain ⟨l, hl⟩ : ∃ l, l = 2 ^ s := ⟨_, rfl⟩
  rw [← hl] at h e ⊢
  unfold W64 at h
  rw [e, wrap64_small _ (by omega) (by omega)]
theorem clr_low (x s : Nat) (hx : x < W64) (hs : s < 64) : bits .andNot .u64 (x : Int) (IntKind.u64.wrap (((2 ^ s : Nat) : Int) - 1)) = ((x - x % 2 ^ s : Nat) : Int) := by
  have hp := pow_64 s hs
  have h1 : 0 < 2 ^ s := Nat.pow_pos (by decide)
  have hw : IntKind.u64.wrap (((2 ^ s : Nat) : Int) - 1) = ((2 ^ s - 1 : Nat) : Int) := by
    obtain ⟨l, hl⟩ : ∃ l, l = 2 ^ s := ⟨_, rfl⟩
    rw [← hl] at hp h1 ⊢
    unfold W64 at hp
    rw [wrap64_small _ (by omega) (by omega)]
    omega
  have hp2 := hp
  have hx2 := hx
  unfold W64 at hp2 hx2
  rw [hw, u64_andNot_nat x (2 ^ s - 1) hx2 (by omega)]
  congr 1
  have e : 18446744073709551615 - (2 ^ s - 1) = (2 ^ (64 - s) - 1) * 2 ^ s := by
    rw [Nat.sub_mul, ← Nat.pow_add, show 64 - s + s = 64 by omega]
    have : (2 : Nat) ^ 64 = 18446744073709551616 := by decide
    omega
  have e2 : x - x % 2 ^ s = x / 2 ^ s * 2 ^ s := by have := Nat.div_add_mod x (2 ^ s); rw [Nat.mul_comm] at this; omega
  rw [e, e2]
  apply Nat.eq_of_testBit_eq
  intro i
  rw [Nat.testBit_and, Nat.testBit_mul_two_pow, Nat.testBit_mul_two_pow, Nat.testBit_two_pow_sub_one, Nat.testBit_div_two_pow]
  by_cases hi : s ≤ i
  · rw [show i - s + s = i by omega]
    by_cases h2 : i - s < 64 - s
    · simp [hi, h2]
    · have h3 : x.testBit i = false := Nat.testBit_lt_two_pow (Nat.lt_of_lt_of_le (W64_two ▸ hx) (Nat.pow_le_pow_right (by decide) (by omega)))
      simp [h3]
  · simp [hi]
def RoundPost (B f gz m c p : Nat) (neg : Bool) (ms : List Nat) (e : Nat) (w : World) (en : Ending) (w' : World) : Prop :=
  en = .returned (.tuple #[]) ∧ FlB w' f p 0 1 neg (.slice (some ⟨gz, 0, none⟩) m c) e ∧ OW w' B (.slice (some ⟨gz, 0, none⟩) m c) ms ∧ Only (fun k => k = f ∨ k = gz) w w'
set_option maxRecDepth 20000 in
set_option maxHeartbeats 2000000 in
theorem round_fits (B f gz m c p e : Nat) (acc : Int) (neg : Bool) (ms : List Nat) (w : World) (hf : FlB w f p acc 1 neg (.slice (some ⟨gz, 0, none⟩) m c) e) (hm : OW w B (.slice (some ⟨gz, 0, none⟩) m c) ms) (hn : m ≤ 100000) (hp : p < 4294967296) (hne : f ≠ gz) (hb : 64 * m ≤ p) :
    Calls Try.prog 78 #[.pointer (some ⟨f, 0, none⟩), .int .u64 0] w (RoundPost B f gz m c p neg ms e w) := by
  obtain ⟨c0, c1, c2, c3, c4, c5, c6, fz⟩ := blk7 hf
  have HF := Lib.hid hf
  have HM := Lib.hid hm
  have hw1 : IntKind.u32.wrap (m : Int) = (m : Int) := by rw [IntKind.wrap_u32]; omega
  obtain ⟨b, hbe⟩ : ∃ b : Nat, (m : Int) * 64 = (b : Int) := ⟨m * 64, by omega⟩
  have hw2 : IntKind.u32.wrap (b : Int) = (b : Int) := by rw [IntKind.wrap_u32]; omega
  have hd : decide ((b : Int) ≤ (p : Int)) = true := by simp; omega
  have hd2 : decide (b ≤ p) = true := by simp; omega
  clear hf hm
  go_enter Try.func78, Try.ntmps78
  go_wp2
  go_end0
  exact ⟨rfl, by simpa [FlB] using HF.out.put 2 (.int .i8 0), HM.out.keep ((Only.refl (· = f) w).setCell (p := ⟨f, 2, none⟩) (.inl rfl) _) (fun h => hne h.symm), (Only.refl _ w).setCell (p := ⟨f, 2, none⟩) (.inl (.inl rfl)) _⟩
set_option maxRecDepth 20000 in
set_option maxHeartbeats 400000 in
/-- The mantissa has s bits more than are wanted, and these are not set. -/
theorem round_same (B f gz m c p e s x : Nat) (acc : Int) (neg : Bool) (ms : List Nat) (w : World) (hf : FlB w f p acc 1 neg (.slice (some ⟨gz, 0, none⟩) m c) e) (hm : OW w B (.slice (some ⟨gz, 0, none⟩) m c) ms) (hn : m ≤ 100000) (hp : p < 4294967296) (hne : f ≠ gz) (hb : 64 * m = p + s) (hs0 : 0 < s) (hs : s < 64) (h0 : 0 < ms.length) (hx : ms[0]'h0 = x) (hx0 : x % 2 ^ s = 0) :
    Calls Try.prog 78 #[.pointer (some ⟨f, 0, none⟩), .int .u64 0] w (RoundPost B f gz m c p neg ms e w) := by
  obtain ⟨c0, c1, c2, c3, c4, c5, c6, fz⟩ := blk7 hf
  have HF := Lib.hid hf
  have HM := Lib.hid hm
  have hml := hm.len
  have hw1 : IntKind.u32.wrap (m : Int) = (m : Int) := by rw [IntKind.wrap_u32]; omega
  obtain ⟨b, hbe⟩ : ∃ b : Nat, (m : Int) * 64 = (b : Int) := ⟨m * 64, by omega⟩
  have hw2 : IntKind.u32.wrap (b : Int) = (b : Int) := by rw [IntKind.wrap_u32]; omega
  have hd : decide ((b : Int) ≤ (p : Int)) = false := by simp; omega
  have hd2 : decide (b ≤ p) = false := by simp; omega
  have hsub : (b : Int) - (p : Int) = (s : Int) := by omega
  obtain ⟨r, hr⟩ : ∃ r, s = r + 1 := ⟨s - 1, by omega⟩
  have hsub2 : (s : Int) - 1 = (r : Int) := by omega
  have hw3 : IntKind.u32.wrap (s : Int) = (s : Int) := by rw [IntKind.wrap_u32]; omega
  have hw4 : IntKind.u32.wrap (r : Int) = (r : Int) := by rw [IntKind.wrap_u32]; omega
  have hw5 : IntKind.u64.wrap (r : Int) = (r : Int) := wrap64_small _ (by omega) (by omega)
  have hdv : x % 2 ^ r = 0 ∧ x / 2 ^ r % 2 = 0 := by
    rw [hr, Nat.pow_succ] at hx0
    have h1 : x % 2 ^ r = 0 := by rw [← Nat.mod_mul_right_mod x (2 ^ r) 2, hx0, Nat.zero_mod]
    refine ⟨h1, ?_⟩
    have h2 := @Nat.mod_mul (2 ^ r) 2 x
    rw [hx0, h1] at h2
    have h3 : 0 < 2 ^ r := Nat.pow_pos (by decide)
    rcases Nat.mul_eq_zero.1 (show 2 ^ r * (x / 2 ^ r % 2) = 0 by omega) with h | h <;> omega
  have hO2 : Only (· = f) w (w.setCell ⟨f, 2, none⟩ (.int .i8 0)) := (Only.refl (fun x => x = f) w).setCell (p := ⟨f, 2, none⟩) (.inl rfl) _
  have hm2 := hm.keep hO2 (fun h => hne h.symm)
  have HBIT := Lib.hid (nat_bit B gz c m 0 r ms _ hm2 h0 (by omega) hn)
  have HST := Lib.hid (nat_sticky B gz c m 0 r ms _ hm2 h0 (by omega) hn)
  have hst0 : stick ms 0 r = 0 := by
    unfold stick
    rw [if_pos]
    refine ⟨by simp, ?_⟩
    rw [List.getD_eq_getElem?_getD, List.getElem?_eq_getElem h0, Option.getD_some, hx]
    exact hdv.1
  rw [hst0, Nat.mul_zero, Nat.zero_add, show ((0 : Nat) : Int) = 0 from rfl] at HST
  rw [hx, hdv.2, Nat.mul_zero, Nat.zero_add, show ((0 : Nat) : Int) = 0 from rfl] at HBIT
  obtain ⟨q, hq⟩ : ∃ q : Nat, (p : Int) + 63 = (q : Int) := ⟨p + 63, by omega⟩
  have hw6 : IntKind.u32.wrap (q : Int) = (q : Int) := by rw [IntKind.wrap_u32]; omega
  have hq2 : (q : Int) / 64 = (m : Int) := by omega
  have hq3 : q / 64 = m := by omega
  have hd3 : decide ((m : Int) < (m : Int)) = false := by simp
  have hd4 : decide (m < m) = false := by simp
  have cz0 := hm.cell 0 h0
  rw [hx] at cz0
  have fzz := hm.free 0
  have hgz : gz ≠ f := fun h => hne h.symm
  have hmin : min s 64 = s := by omega
  obtain ⟨l, hl⟩ : ∃ l, l = 2 ^ s := ⟨_, rfl⟩
  have hl64 : l < W64 := by rw [hl, W64_two]; exact Nat.pow_lt_pow_right (by decide) hs
  have hwl : IntKind.u64.wrap ((2 : Int) ^ s) = (l : Int) := by rw [one_shl s hs, hl]
  have HL := Lib.hid hl
  have HX := Lib.hid hx
  have HX0 := Lib.hid hx0
  clear hf hm hr hx0 hdv hst0 hml hb hl hx hO2 hm2
  go_enter Try.func78, Try.ntmps78
  go_wp2_with fail
  refine HBIT.out.mono ?_
  rintro en w' ⟨rfl, rfl⟩
  go_wp2_with fail
  refine HST.out.mono ?_
  rintro en w' ⟨rfl, rfl⟩
  go_wp2
  go_end0
  have e := clr_low x s (by have := HM.out.2 x (HX.out ▸ List.getElem_mem _); exact this) hs
  rw [HX0.out, Nat.sub_zero, ← HL.out] at e
  rw [e]
  have h1 := (HM.out.keep ((Only.refl (fun k => k = f) w).setCell (p := ⟨f, 2, none⟩) (.inl rfl) (.int .i8 0)) hgz).store 0 x (HM.out.2 x (HX.out ▸ List.getElem_mem _))
  refine ⟨rfl, ?_, ?_, ((Only.refl _ w).setCell (p := ⟨f, 2, none⟩) (.inl (.inl rfl)) _).setCell (p := ⟨gz, 0, none⟩) (.inl (.inr rfl)) _⟩
  · have h2 := (HF.out.put 2 (.int .i8 0)).far (p := ⟨gz, 0, none⟩) hne (.int .u64 (x : Int))
    simpa [FlB] using h2
  · have h3 : ms.set 0 x = ms := by
      have := HX.out
      conv => lhs; rw [← this]
      exact List.set_getElem_self h0
    rw [h3] at h1
    exact h1
end Go.Proofs.Ytndeolcamgnmdaa
