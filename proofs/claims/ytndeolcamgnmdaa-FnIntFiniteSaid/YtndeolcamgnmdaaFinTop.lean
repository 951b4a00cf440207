/- Joined texts: Round53W, FloatInt, FloatSet, FinFl, StarFl, Float64, FinLaw, BigFloat. -/
import Derived.Test.YtndeolcamgnmdaaRound53U
import Derived.Test.YtndeolcamgnmdaaRound53V
import Derived.Test.YtndeolcamgnmdaaRoundK
import Derived.Deep.RegionWith
import Derived.Deep.DeepCutAuto
import Derived.BigQuiet
import Derived.Test.YtndeolcamgnmdaaInfW
import Derived.Test.YtndeolcamgnmdaaBigFl
import Derived.Test.YtndeolcamgnmdaaImplWhole
import Derived.Test.YtndeolcamgnmdaaNearTop
import Derived.Test.YtndeolcamgnmdaaWhole
namespace Go.Proofs.Ytndeolcamgnmdaa
open Go.RowKit
theorem round_53 (B f gz m c e k T : Nat) (acc : Int) (neg : Bool) (ms : List Nat) (w : World) (hf : FlB w f 53 acc 1 neg (.slice (some ⟨gz, 0, none⟩) m c) e) (hm : OW w B (.slice (some ⟨gz, 0, none⟩) m c) ms) (hn : m ≤ 100000) (hne : f ≠ gz) (hmk : m = k + 1) (hk : k < ms.length) (hT : ms[k]'hk = T) (he : e < 100000) :
    Calls Try.prog 78 #[.pointer (some ⟨f, 0, none⟩), .int .u64 0] w (Round53Post B f gz c neg e (roundK T (valW (ms.take k))) w) := by
  have hml := hm.len
  have hT64 : T < W64 := by rw [← hT]; exact hm.2 _ (List.getElem_mem _)
  have hst := stick_zero ms k T hk hT
  obtain ⟨low, hlow⟩ : ∃ low, low = valW (ms.take k) := ⟨_, rfl⟩
  rw [← hlow] at hst ⊢
  have e10 : (2 : Nat) ^ 10 = 1024 := rfl
  by_cases hk0 : k = 0
  · subst hk0
    have hms : ms = [T] := by
      match ms, hml, hk, hT with
      | [a], _, _, h => simp at h; rw [h]
      | a :: b :: l, h, _, _ => simp at h; omega
    subst hms
    subst hmk
    rcases (show T / 1024 % 2 = 0 ∨ T / 1024 % 2 = 1 by omega) with h1 | h1
    · rw [roundK_down T low (.inl h1)]
      by_cases h2 : low = 0 ∧ T % 1024 = 0
      · rw [if_pos h2] at hst
        exact r53_1E B f gz c e T acc neg w hf hm hne he h1 hst
      · rw [if_neg h2] at hst
        exact r53_1D B f gz c e T acc neg w hf hm hne he h1 hst
    · by_cases h2 : low = 0 ∧ T % 1024 = 0
      · rw [if_pos h2] at hst
        by_cases h3 : T / 2048 % 2 = 0
        · rw [roundK_down T low (.inr ⟨h2.2, h2.1, h3⟩)]
          exact r53_1H B f gz c e T acc neg w hf hm hne he h1 hst (and_lsb0 T hT64 h3)
        · rw [roundK_up T low ⟨h1, .inr (.inr (by omega))⟩]
          exact r53_1V B f gz c e T acc neg w hf hm hne he h1 hst (and_lsb1 T hT64 h3)
      · rw [if_neg h2] at hst
        rw [roundK_up T low ⟨h1, sb_some (by rw [if_neg h2])⟩]
        exact r53_1U B f gz c e T acc neg w hf hm hne he h1 hst
  · rcases (show T / 1024 % 2 = 0 ∨ T / 1024 % 2 = 1 by omega) with h1 | h1
    · rw [roundK_down T low (.inl h1)]
      by_cases h2 : low = 0 ∧ T % 1024 = 0
      · rw [if_pos h2] at hst
        exact r53_kE B f gz m c e k T acc neg ms w hf hm hn hne hmk hk0 hk hT he h1 hst
      · rw [if_neg h2] at hst
        exact r53_kD B f gz m c e k T acc neg ms w hf hm hn hne hmk hk0 hk hT he h1 hst
    · by_cases h2 : low = 0 ∧ T % 1024 = 0
      · rw [if_pos h2] at hst
        by_cases h3 : T / 2048 % 2 = 0
        · rw [roundK_down T low (.inr ⟨h2.2, h2.1, h3⟩)]
          exact r53_kH B f gz m c e k T acc neg ms w hf hm hn hne hmk hk0 hk hT he h1 hst (and_lsb0 T hT64 h3)
        · rw [roundK_up T low ⟨h1, .inr (.inr (by omega))⟩]
          exact r53_kV B f gz m c e k T acc neg ms w hf hm hn hne hmk hk0 hk hT he h1 hst (and_lsb1 T hT64 h3)
      · rw [if_neg h2] at hst
        rw [roundK_up T low ⟨h1, sb_some (by rw [if_neg h2])⟩]
        exact r53_kU B f gz m c e k T acc neg ms w hf hm hn hne hmk hk0 hk hT he h1 hst
end Go.Proofs.Ytndeolcamgnmdaa
namespace Go.Proofs.Ytndeolcamgnmdaa
open Go.RowKit
/-- Nothing is cut off: the mantissa fits, or what is over is not set. -/
def Fits (m p : Nat) (ms : List Nat) : Prop := 64 * m ≤ p ∨ ∃ s x, 64 * m = p + s ∧ 0 < s ∧ s < 64 ∧ ms[0]? = some x ∧ x % 2 ^ s = 0
theorem round_int (B f gz m c p e : Nat) (acc : Int) (neg : Bool) (ms : List Nat) (w : World) (hf : FlB w f p acc 1 neg (.slice (some ⟨gz, 0, none⟩) m c) e) (hm : OW w B (.slice (some ⟨gz, 0, none⟩) m c) ms) (hn : m ≤ 100000) (hp : p < 4294967296) (hne : f ≠ gz) (hfit : Fits m p ms) :
    Calls Try.prog 78 #[.pointer (some ⟨f, 0, none⟩), .int .u64 0] w (RoundPost B f gz m c p neg ms e w) := by
  rcases hfit with h | ⟨s, x, h1, h2, h3, h4, h5⟩
  · exact round_fits B f gz m c p e acc neg ms w hf hm hn hp hne h
  · obtain ⟨h6, h7⟩ := List.getElem?_eq_some_iff.1 h4
    exact round_same B f gz m c p e s x acc neg ms w hf hm hn hp hne h1 h2 h3 h6 h7 h5
set_option maxRecDepth 20000 in
set_option maxHeartbeats 2000000 in
theorem set_exp_round (B f gz m c p L : Nat) (neg : Bool) (ms : List Nat) (w : World) (hf : FlB w f p 0 0 neg (.slice (some ⟨gz, 0, none⟩) m c) 0) (hm : OW w B (.slice (some ⟨gz, 0, none⟩) m c) ms) (hn : m ≤ 100000) (hp : p < 4294967296) (hne : f ≠ gz) (hfit : Fits m p ms) (hL : L ≤ 100000) :
    Calls Try.prog 68 #[.pointer (some ⟨f, 0, none⟩), .int .i64 (L : Int), .int .u64 0] w (RoundPost B f gz m c p neg ms L w) := by
  obtain ⟨c0, c1, c2, c3, c4, c5, c6, fz⟩ := blk7 hf
  have hb1 : FlB ((w.setCell ⟨f, 3, none⟩ (.int .u8 1)).setCell ⟨f, 6, none⟩ (.int .i32 (L : Int))) f p 0 1 neg (.slice (some ⟨gz, 0, none⟩) m c) L := by simpa [FlB] using (hf.put 3 (.int .u8 1)).put 6 (.int .i32 (L : Int))
  have hO : Only (fun k => k = f) w ((w.setCell ⟨f, 3, none⟩ (.int .u8 1)).setCell ⟨f, 6, none⟩ (.int .i32 (L : Int))) := ((Only.refl (fun x => x = f) w).setCell (p := ⟨f, 3, none⟩) (.inl rfl) _).setCell (p := ⟨f, 6, none⟩) (.inl rfl) _
  have HR := Lib.hid (round_int B f gz m c p L 0 neg ms _ hb1 (hm.keep hO (fun h => hne h.symm)) hn hp hne hfit)
  have HO := Lib.hid hO
  have hd1 : decide ((L : Int) < -2147483648) = false := by rw [decide_eq_false_iff_not]; omega
  have hd2 : decide ((2147483647 : Int) < (L : Int)) = false := by simp; omega
  have hw : IntKind.i32.wrap (L : Int) = (L : Int) := by rw [IntKind.wrap_i32]; omega
  clear hf hm hb1 hO hfit
  go_enter Try.func68, Try.ntmps68
  go_wp2_with fail
  refine HR.out.mono ?_
  rintro en w' ⟨rfl, h1, h2, h3⟩
  have H1 := Lib.hid h1
  have H2 := Lib.hid h2
  have H3 := Lib.hid h3
  clear h1 h2 h3
  go_wp2
  go_end0
  exact ⟨rfl, H1.out, H2.out, (HO.out.mono (fun k _ h => .inl h)).trans H3.out⟩
/-- A float that holds an integer above 0: its mantissa's words. -/
def FlInt (w : World) (f : Nat) (neg : Bool) (N : Nat) : Prop :=
  ∃ gz m c ms L s p, FlB w f p 0 1 neg (.slice (some ⟨gz, 0, none⟩) m c) L ∧ OW w (f + 1) (.slice (some ⟨gz, 0, none⟩) m c) ms ∧ valW ms = N * 2 ^ s ∧ L + s = 64 * m ∧ N.log2 + 1 = L ∧ 53 < p ∧ p < 4294967296 ∧ m ≤ 1000 ∧ 0 < m
theorem blen_log (ws : List Nat) (ht : TopNZ ws) (hw : ∀ x ∈ ws, x < W64) (h0 : ws ≠ []) : (valW ws).log2 + 1 = blen ws ∧ valW ws ≠ 0 := by
  have h1 : valW ws < 2 ^ blen ws := (blen_le ws _ ht hw).1 (Nat.le_refl _)
  have hN : valW ws ≠ 0 := by
    obtain ⟨init, last, rfl⟩ : ∃ init last, ws = init ++ [last] := ⟨ws.dropLast, ws.getLast h0, (List.dropLast_concat_getLast h0).symm⟩
    have hl0 : last ≠ 0 := by unfold TopNZ at ht; simpa using ht
    have h3 := valW_top init last hl0
    have h4 : 0 < W64 ^ init.length := Nat.pow_pos W64_pos
    omega
  have h2 : blen ws ≤ (valW ws).log2 + 1 := (blen_le ws _ ht hw).2 Nat.lt_log2_self
  have h3 : (valW ws).log2 < blen ws := (Nat.log2_lt hN).2 h1
  exact ⟨by omega, hN⟩
theorem blen_top (ws : List Nat) (h0 : ws ≠ []) (ht : TopNZ ws) (hw : ∀ x ∈ ws, x < W64) : blen ws + (64 - Lib.bitLen (ws.getLast?.getD 0)) = 64 * ws.length ∧ 64 - Lib.bitLen (ws.getLast?.getD 0) < 64 := by
  obtain ⟨init, last, rfl⟩ : ∃ init last, ws = init ++ [last] := ⟨ws.dropLast, ws.getLast h0, (List.dropLast_concat_getLast h0).symm⟩
  have hl0 : last ≠ 0 := by unfold TopNZ at ht; simpa using ht
  have hlw : last < W64 := hw last (by simp)
  have hb := bitLen_64 last hlw
  have hp := bitLen_pos last hlw hl0
  unfold blen
  simp
  omega
/-- The lowest word of what is shifted by s has s bits that are not set. -/
theorem low_zero (ms : List Nat) (N s : Nat) (h : valW ms = N * 2 ^ s) (hs : s < 64) (h0 : 0 < ms.length) : ∃ x, ms[0]? = some x ∧ x % 2 ^ s = 0 := by
  match ms, h0 with
  | a :: r, _ =>
    refine ⟨a, rfl, ?_⟩
    simp only [valW] at h
    have h1 : (a + W64 * valW r) % 2 ^ s = 0 := by rw [h]; exact Nat.mul_mod_left _ _
    rw [two_split s (by omega), Nat.mul_assoc, Nat.add_mul_mod_self_left] at h1
    exact h1
theorem OW.hp0 {w w' : World} {B : Nat} {v : Value} {l : List Nat} (h : OW w B v l) (e : w'.heap = w.heap) : OW w' B v l := by
  refine ⟨⟨h.1.1, ?_⟩, h.2⟩
  rcases h.1.2 with h0 | ⟨g, cap, cur, hv, hb, hh, hr⟩
  · exact .inl h0
  · exact .inr ⟨g, cap, cur, hv, hb, by rw [e]; exact hh, hr⟩
theorem OW.at_ne {w : World} {B : Nat} {v : Value} {l : List Nat} (h : OW w B v l) (h0 : l ≠ []) : ∃ g m c, v = .slice (some ⟨g, 0, none⟩) m c ∧ m = l.length ∧ B ≤ g := by
  rcases h.form with ⟨_, hl⟩ | ⟨g, c, hv, hb, _⟩
  · exact absurd hl h0
  · exact ⟨g, _, c, hv, rfl, hb⟩
set_option maxRecDepth 20000 in
set_option maxHeartbeats 4000000 in
theorem set_int (B b f : Nat) (neg : Bool) (ws : List Nat) (W : World) (hbi : BigI W B b neg ws) (h0 : ws ≠ []) (hbf : b < f) (hf : Blk W f 99 #[.int .u32 0, .int .u8 0, .int .i8 0, .int .u8 0, .bool false, .slice none 0 0, .int .i32 0]) (hsz : f + 1 = W.heap.size) :
    Calls Try.prog 59 #[.pointer (some ⟨f, 0, none⟩), .pointer (some ⟨b, 0, none⟩)] W fun e w' => e = .returned (.pointer (some ⟨f, 0, none⟩)) ∧ FlInt w' f neg (valW ws) ∧ Below f W w' := by
  have HBI := Lib.hid hbi
  obtain ⟨v, hz, how, htop, _, hlen⟩ := hbi
  obtain ⟨b0, b1, _, _⟩ := blk2 hz
  obtain ⟨c0, c1, c2, c3, c4, c5, c6, fz⟩ := blk7 hf
  have HBL := Lib.hid (int_bitLen B b neg ws W HBI.out)
  have hbb := blen_bound ws hlen how.2
  obtain ⟨hbt, hs64⟩ := blen_top ws h0 htop how.2
  obtain ⟨s, hs⟩ : ∃ s, s = 64 - Lib.bitLen (ws.getLast?.getD 0) := ⟨_, rfl⟩
  rw [← hs] at hbt hs64
  obtain ⟨hlog, hN0⟩ := blen_log ws htop how.2 h0
  obtain ⟨L, hL⟩ : ∃ L, L = blen ws := ⟨_, rfl⟩
  unfold BLenPost at HBL
  rw [← hL] at HBL hbb hbt hlog
  have hw1 : IntKind.u32.wrap (L : Int) = (L : Int) := by rw [IntKind.wrap_u32]; omega
  have hw2 : IntKind.i64.wrap (L : Int) = (L : Int) := wrap_i64_mid _ (by omega) (by omega)
  have hl1 : ws.length ≠ 0 := fun e => h0 (List.eq_nil_of_length_eq_zero e)
  obtain ⟨n, hn⟩ : ∃ n, n = ws.length := ⟨_, rfl⟩
  rw [← hn] at hl1 hbt
  obtain ⟨a, c, hv⟩ := how.shape
  rw [← hn] at hv
  subst hv
  have he0 : ((n : Int) == 0) = false := by rw [beq_eq_false_iff_ne]; omega
  have HF := Lib.hid hf
  have HZ := Lib.hid hz
  have HOW := Lib.hid how
  have HTOP := Lib.hid htop
  have HS := Lib.hid hs
  have HN := Lib.hid hn
  have HBT := Lib.hid hbt
  have HLOG := Lib.hid hlog
  have hne : b ≠ f := by omega
  have hne2 : f ≠ b := by omega
  have hfar := own_ne_blk how.1 hf (by decide)
  have HFAR := Lib.hid hfar
  obtain ⟨p, hpm, hp53, hp2, hpL⟩ : ∃ p : Nat, max (L : Int) 64 = (p : Int) ∧ 53 < p ∧ p < 4294967296 ∧ (p = L ∨ (L ≤ 64 ∧ p = 64)) := by
    by_cases h64 : L ≤ 64
    · exact ⟨64, by omega, by omega, by omega, .inr ⟨h64, rfl⟩⟩
    · exact ⟨L, by omega, by omega, by omega, .inl rfl⟩
  have HPL := Lib.hid hpL
  clear hf hz how htop hs hn hbt hlog hL hfar hpL
  go_enter Try.func59, Try.ntmps59
  go_wp2_with fail
  refine HBL.out.mono ?_
  rintro e w' ⟨rfl, rfl⟩
  go_wp2_with fail
  have hb1 : FlB (((W.setCell ⟨f, 0, none⟩ (.int .u32 (p : Int))).setCell ⟨f, 2, none⟩ (.int .i8 0)).setCell ⟨f, 4, none⟩ (.bool neg)) f p 0 0 neg (.slice none 0 0) 0 := by
    simpa [FlB] using ((HF.out.put 0 (.int .u32 (p : Int))).put 2 (.int .i8 0)).put 4 (.bool neg)
  have hO1 : Only (· = f) W (((W.setCell ⟨f, 0, none⟩ (.int .u32 (p : Int))).setCell ⟨f, 2, none⟩ (.int .i8 0)).setCell ⟨f, 4, none⟩ (.bool neg)) :=
    (((Only.refl (fun x => x = f) W).setCell (p := ⟨f, 0, none⟩) (.inl rfl) _).setCell (p := ⟨f, 2, none⟩) (.inl rfl) _).setCell (p := ⟨f, 4, none⟩) (.inl rfl) _
  obtain ⟨W1, hW1⟩ : ∃ W1, W1 = ((W.setCell ⟨f, 0, none⟩ (.int .u32 (p : Int))).setCell ⟨f, 2, none⟩ (.int .i8 0)).setCell ⟨f, 4, none⟩ (.bool neg) := ⟨_, rfl⟩
  rw [← hW1] at hb1 hO1 ⊢
  clear hW1 c0 c1 c2 c3 c4 c5 c6 fz b0 b1
  have hz1 := HZ.out.only hO1 hne
  have how1 : OW W1 B (.slice a n c) ws := ⟨own_only HOW.out.1 hO1 HFAR.out, HOW.out.2⟩
  obtain ⟨c0, c1, c2, c3, c4, c5, c6, fz⟩ := blk7 hb1
  obtain ⟨b0, b1, _, _⟩ := blk2 hz1
  have HB1 := Lib.hid hb1
  have HO1 := Lib.hid hO1
  have HOW1 := Lib.hid how1
  have hsz1 : W.heap.size ≤ W1.heap.size := hO1.size
  clear hb1 hO1 how1 hz1
  go_region_with ((go_at_call 64; refine (nat_set B _ ws W1.drew (HOW1.out.hp0 rfl) hlen).mono ?_; rintro e w2 ⟨v2, rfl, how2, hb2⟩; obtain ⟨g2, m2, cz2, hv2, hm2, hg2⟩ := how2.at_ne h0; rw [hv2] at how2 ⊢; have H2 := Lib.hid how2; have HM2 := Lib.hid hm2; have HBW2 := Lib.hid (show Below W1.heap.size W1 w2 from (below_dn (Below.refl _ W1) 1).trans hb2); have hg3 : W1.heap.size ≤ g2 := hg2; have hb3 := HB1.out.below HBW2.out HB1.out.lt; clear c0 c1 c2 c3 c4 c5 c6 fz; obtain ⟨c0, c1, c2, c3, c4, c5, c6, fz⟩ := blk7 hb3; have HB3 := Lib.hid hb3; clear hb3 how2 hb2 hv2 hm2 hg2))
  all_goals
    go_upto_region 10 with fail
    have hfg : f ≠ g2 := by omega
    have hgf : g2 ≠ f := by omega
    have hb4 : FlB (w2.setCell ⟨f, 5, none⟩ (.slice (some ⟨g2, 0, none⟩) m2 cz2)) f p 0 0 neg (.slice (some ⟨g2, 0, none⟩) m2 cz2) 0 := by simpa [FlB] using HB3.out.put 5 (.slice (some ⟨g2, 0, none⟩) m2 cz2)
    have h4 := (H2.out.base (C := f + 1) (show f + 1 ≤ W1.heap.size by omega)).keep ((Only.refl (fun x => x = f) w2).setCell (p := ⟨f, 5, none⟩) (.inl rfl) (.slice (some ⟨g2, 0, none⟩) m2 cz2)) hgf
    have hO4 : Below f W (w2.setCell ⟨f, 5, none⟩ (.slice (some ⟨g2, 0, none⟩) m2 cz2)) := ((HO1.out.to_below (B := f) (by omega) (fun k _ h => by omega)).trans (HBW2.out.mono (by omega))).setCell (p := ⟨f, 5, none⟩) (Nat.le_refl _) _
    obtain ⟨W4, hW4⟩ : ∃ W4, W4 = w2.setCell ⟨f, 5, none⟩ (.slice (some ⟨g2, 0, none⟩) m2 cz2) := ⟨_, rfl⟩
    rw [← hW4] at hb4 h4 hO4 ⊢
    clear hW4 c0 c1 c2 c3 c4 c5 c6 fz
    obtain ⟨c0, c1, c2, c3, c4, c5, c6, fz⟩ := blk7 hb4
    have hm2 := HM2.out
    have HFN := Lib.hid (fnorm_any (f + 1) g2 m2 cz2 ws W4 h4 h0 HTOP.out (by omega))
    unfold NormedPost at HFN
    rw [← HS.out] at HFN
    have HB4 := Lib.hid hb4
    have HO4 := Lib.hid hO4
    have hgW : g2 < W4.heap.size := (h4.1.lt _ rfl).2
    clear hb4 h4 hO4 hm2
    go_wp2_with fail
    refine HFN.out.mono ?_
    rintro e w5 ⟨ms, rfl, hml, hval, how5, hO5⟩
    have hb5 := HB4.out.only hO5 hfg
    have hml0 : 0 < ms.length := by have := HN.out; omega
    have hlen5 := how5.len
    have hbt := HBT.out
    have hnn := HN.out
    have hfit : Fits m2 p ms := by
      rcases HPL.out with h | ⟨h1, h2⟩
      · rcases Nat.eq_zero_or_pos s with h3 | h3
        · exact .inl (by omega)
        · obtain ⟨x, hx1, hx2⟩ := low_zero ms _ s hval hs64 hml0
          exact .inr ⟨s, x, by omega, h3, hs64, hx1, hx2⟩
      · exact .inl (by omega)
    have HSR := Lib.hid (set_exp_round (f + 1) f g2 m2 cz2 p L neg ms w5 hb5 how5 (by omega) hp2 hfg hfit (by omega))
    have HV := Lib.hid hval
    have HO5 := Lib.hid hO5
    have H25 : Hid (m2 = n) := by unfold Hid; omega
    clear hb5 how5 hml hval hO5 hfit hlen5 hbt hnn c0 c1 c2 c3 c4 c5 c6 fz
    go_wp2_with fail
    refine HSR.out.mono ?_
    rintro e w6 ⟨rfl, h61, h62, h63⟩
    have H61 := Lib.hid h61
    have H62 := Lib.hid h62
    have H63 := Lib.hid h63
    clear h61 h62 h63
    go_wp2
    go_ret
    have h25 := H25.out
    have hbt := HBT.out
    have hnn := HN.out
    refine ⟨rfl, ⟨g2, m2, cz2, ms, L, s, p, H61.out, H62.out, HV.out, by omega, HLOG.out, hp53, hp2, by omega, by omega⟩, ?_⟩
    have hsz4 : W.heap.size ≤ W4.heap.size := HO4.out.size
    have h51 : Below f W4 w5 := HO5.out.to_below (by omega) (fun k _ h => by omega)
    exact (HO4.out.trans h51).trans (H63.out.to_below (by have := h51.size; omega) (fun k _ h => by omega))
end Go.Proofs.Ytndeolcamgnmdaa
namespace Go.Proofs.Ytndeolcamgnmdaa
open Go.RowKit
theorem Try.infoFloat : (Try.prog.info? 99).map (·.size) = some 7 := by kernel_rfl
def Set53Post (r : Nat) (neg : Bool) (L K : Nat) (w : World) (e : Ending) (w' : World) : Prop :=
  e = .returned (.pointer (some ⟨r, 0, none⟩)) ∧ ∃ (acc : Int) (g c : Nat), FlB w' r 53 acc 1 neg (.slice (some ⟨g, 0, none⟩) 1 c) (L + K / 9007199254740992) ∧ OW w' (r + 1) (.slice (some ⟨g, 0, none⟩) 1 c) [if K = 9007199254740992 then 9223372036854775808 else 2048 * K] ∧ Below r w w'
set_option maxRecDepth 20000 in
set_option maxHeartbeats 4000000 in
theorem set_53 (f r gz m c L p k T : Nat) (neg : Bool) (ms : List Nat) (w : World) (hf : FlB w f p 0 1 neg (.slice (some ⟨gz, 0, none⟩) m c) L) (hm : OW w (f + 1) (.slice (some ⟨gz, 0, none⟩) m c) ms) (hr : FlB w r 53 0 0 false (.slice none 0 0) 0) (hrs : r + 1 = w.heap.size) (hfr : f < r) (hp : 53 < p) (hn : m ≤ 1000) (hmk : m = k + 1) (hk : k < ms.length) (hT : ms[k]'hk = T) (hL : L < 100000) :
    Calls Try.prog 70 #[.pointer (some ⟨r, 0, none⟩), .pointer (some ⟨f, 0, none⟩)] w (Set53Post r neg L (roundK T (valW (ms.take k))) w) := by
  obtain ⟨c0, c1, c2, c3, c4, c5, c6, fz⟩ := blk7 hf
  obtain ⟨r0, r1, r2, r3, r4, r5, r6, rz⟩ := blk7 hr
  rw [show ((53 : Nat) : Int) = 53 from rfl] at r0
  rw [show ((1 : Nat) : Int) = 1 from rfl] at c3
  have hne : f ≠ r := by omega
  have hne2 : r ≠ f := by omega
  obtain ⟨j, hj, hj2⟩ := Option.map_eq_some_iff.1 Try.infoFloat
  have hb1 : FlB (w.setCell ⟨r, 2, none⟩ (.int .i8 0)) r 53 0 0 false (.slice none 0 0) 0 := by simpa [FlB] using hr.put 2 (.int .i8 0)
  have hpne := run_neq_ptr_other (P := Try.prog) (w.setCell ⟨r, 2, none⟩ (.int .i8 0)) (tp := 94) (te := 99) (a := ⟨r, 0, none⟩) (b := ⟨f, 0, none⟩) Try.underlying94 hj (by rw [hj2]; decide) (by intro e; injection e with e1; exact hne2 e1) hb1 (hf.far (p := ⟨r, 2, none⟩) hne (.int .i8 0))
  have HF := Lib.hid hf
  have HM := Lib.hid hm
  have HR := Lib.hid hr
  have hgr : gz ≠ r := by
    have h1 := own_ne_blk hm.1 hr (by decide) gz rfl
    exact h1
  have hml := hm.len
  have HT := Lib.hid hT
  have HMK := Lib.hid hmk
  have hms : ms ≠ [] := fun e => by rw [e] at hk; simp at hk
  have hp2 : decide ((53 : Int) < (p : Int)) = true := by simp; omega
  have hp3 : decide (53 < p) = true := by simp; omega
  have HML := Lib.hid hml
  clear hf hm hr hj hj2 hb1 hmk hT hml
  go_enter Try.func70, Try.ntmps70
  go_wp2_with fail
  have hb1 : FlB ((((w.setCell ⟨r, 2, none⟩ (.int .i8 0)).setCell ⟨r, 3, none⟩ (.int .u8 1)).setCell ⟨r, 4, none⟩ (.bool neg)).setCell ⟨r, 6, none⟩ (.int .i32 (L : Int))) r 53 0 1 neg (.slice none 0 0) L := by
    simpa [FlB] using (((HR.out.put 2 (.int .i8 0)).put 3 (.int .u8 1)).put 4 (.bool neg)).put 6 (.int .i32 (L : Int))
  have hO1 : Only (· = r) w ((((w.setCell ⟨r, 2, none⟩ (.int .i8 0)).setCell ⟨r, 3, none⟩ (.int .u8 1)).setCell ⟨r, 4, none⟩ (.bool neg)).setCell ⟨r, 6, none⟩ (.int .i32 (L : Int))) :=
    ((((Only.refl (fun x => x = r) w).setCell (p := ⟨r, 2, none⟩) (.inl rfl) _).setCell (p := ⟨r, 3, none⟩) (.inl rfl) _).setCell (p := ⟨r, 4, none⟩) (.inl rfl) _).setCell (p := ⟨r, 6, none⟩) (.inl rfl) _
  obtain ⟨W1, hW1⟩ : ∃ W1, W1 = (((w.setCell ⟨r, 2, none⟩ (.int .i8 0)).setCell ⟨r, 3, none⟩ (.int .u8 1)).setCell ⟨r, 4, none⟩ (.bool neg)).setCell ⟨r, 6, none⟩ (.int .i32 (L : Int)) := ⟨_, rfl⟩
  rw [← hW1] at hb1 hO1 ⊢
  clear hW1 c0 c1 c2 c3 c4 c5 c6 fz r0 r1 r2 r3 r4 r5 r6 rz hpne
  have hf1 : FlB W1 f p 0 1 neg (.slice (some ⟨gz, 0, none⟩) m c) L := HF.out.only hO1 hne
  obtain ⟨c0, c1, c2, c3, c4, c5, c6, fz⟩ := blk7 hf1
  obtain ⟨r0, r1, r2, r3, r4, r5, r6, rz⟩ := blk7 hb1
  rw [show ((53 : Nat) : Int) = 53 from rfl] at r0
  have HB1 := Lib.hid hb1
  have HF1 := Lib.hid hf1
  have HM1 := Lib.hid (HM.out.keep hO1 hgr)
  have HO1 := Lib.hid hO1
  have hs1 : w.heap.size ≤ W1.heap.size := hO1.size
  clear hb1 hO1 hf1
  go_region_with ((go_at_call 64; refine (nat_set (f + 1) _ ms W1.drew (HM1.out.hp0 rfl) (by have := HML.out; omega)).mono ?_; rintro e w2 ⟨v2, rfl, how2, hb2⟩; obtain ⟨g2, m2, cz2, hv2, hm2, hg2⟩ := how2.at_ne hms; rw [hv2] at how2 ⊢; have H2 := Lib.hid how2; have HM2 := Lib.hid hm2; have HBW2 := Lib.hid (show Below W1.heap.size W1 w2 from (below_dn (Below.refl _ W1) 1).trans hb2); have hg3 : W1.heap.size ≤ g2 := hg2; have hb3 := HB1.out.below HBW2.out HB1.out.lt; have hf3 := HF1.out.below HBW2.out HF1.out.lt; clear c0 c1 c2 c3 c4 c5 c6 fz r0 r1 r2 r3 r4 r5 r6 rz; obtain ⟨r0, r1, r2, r3, r4, r5, r6, rz⟩ := blk7 hb3; have HB3 := Lib.hid hb3; have HF3 := Lib.hid hf3; clear hb3 hf3 how2 hb2 hv2 hm2 hg2))
  all_goals
    go_upto_region 8 with fail
    have hrg : r ≠ g2 := by omega
    have hgr2 : g2 ≠ r := by omega
    have hb4 : FlB (w2.setCell ⟨r, 5, none⟩ (.slice (some ⟨g2, 0, none⟩) m2 cz2)) r 53 0 1 neg (.slice (some ⟨g2, 0, none⟩) m2 cz2) L := by simpa [FlB] using HB3.out.put 5 (.slice (some ⟨g2, 0, none⟩) m2 cz2)
    have h4 := (H2.out.base (C := r + 1) (show r + 1 ≤ W1.heap.size by omega)).keep ((Only.refl (fun x => x = r) w2).setCell (p := ⟨r, 5, none⟩) (.inl rfl) (.slice (some ⟨g2, 0, none⟩) m2 cz2)) hgr2
    have hf4 : FlB (w2.setCell ⟨r, 5, none⟩ (.slice (some ⟨g2, 0, none⟩) m2 cz2)) f p 0 1 neg (.slice (some ⟨gz, 0, none⟩) m c) L := HF3.out.far (p := ⟨r, 5, none⟩) hne _
    have hO4 : Below r w (w2.setCell ⟨r, 5, none⟩ (.slice (some ⟨g2, 0, none⟩) m2 cz2)) := ((HO1.out.to_below (B := r) (by omega) (fun k _ h => by omega)).trans (HBW2.out.mono (by omega))).setCell (p := ⟨r, 5, none⟩) (Nat.le_refl _) _
    obtain ⟨W4, hW4⟩ : ∃ W4, W4 = w2.setCell ⟨r, 5, none⟩ (.slice (some ⟨g2, 0, none⟩) m2 cz2) := ⟨_, rfl⟩
    rw [← hW4] at hb4 h4 hO4 hf4 ⊢
    clear hW4 r0 r1 r2 r3 r4 r5 r6 rz
    obtain ⟨r0, r1, r2, r3, r4, r5, r6, rz⟩ := blk7 hb4
    rw [show ((53 : Nat) : Int) = 53 from rfl] at r0
    obtain ⟨c0, c1, c2, c3, c4, c5, c6, fz⟩ := blk7 hf4
    have hm2 := HM2.out
    have hml := HML.out
    have hmk := HMK.out
    have HRD := Lib.hid (fun q => round_53 (r + 1) r g2 m2 cz2 L k T 0 neg ms (W4.drewN q) hb4 (h4.hp0 rfl) (by omega) hrg (by omega) hk HT.out hL)
    have HO4 := Lib.hid hO4
    have hs4 : w.heap.size ≤ W4.heap.size := hO4.size
    clear hb4 hf4 h4 hO4 hm2 hml hmk
    go_wp2_with fail
    go_quiet (fail)
    go_wp2_with fail
    refine (HRD.out _).mono ?_
    rintro e w5 ⟨rfl, acc, h51, h52, h53⟩
    have H51 := Lib.hid h51
    have H52 := Lib.hid h52
    have H53 := Lib.hid h53
    clear h51 h52 h53
    go_wp2
    go_ret
    exact ⟨rfl, acc, g2, cz2, H51.out, H52.out, HO4.out.trans ((below_dn (Below.refl r W4) _).trans (H53.out.to_below (by simp; omega) (fun k _ h => by omega)))⟩
end Go.Proofs.Ytndeolcamgnmdaa
namespace Go.Proofs.Ytndeolcamgnmdaa
open Go.RowKit
/-- What Float is to answer for an int. -/
def FloatPost (n : Int) (w : World) (e : Ending) (w' : World) : Prop := e = .returned (.float .f64 (FW (decide (n < 0)) (rint n.natAbs))) ∧ Below w.heap.size w w'
def FloatsAt (n : Int) : Prop := ∀ (B : Nat) (v : Value) (W : World), SI W B v n → Calls Try.prog 45 #[v] W (FloatPost n W)
theorem rint_le (N : Nat) : rint N ≤ infR := by
  unfold rint
  split
  · exact Nat.zero_le _
  · unfold rungOf
    exact Nat.min_le_right _ _
def NewErrPost (w : World) (e : Ending) (w' : World) : Prop := ∃ a, e = .returned (.iface 102 (.pointer (some a))) ∧ Below w.heap.size w w'
theorem err_new (s : ByteArray) (w : World) : Calls Try.prog 46 #[.string s] w (NewErrPost w) := by
  go_enter Try.func46, Try.ntmps46
  go_wp2
  go_ret
  exact ⟨_, rfl, (Below.refl _ w).alloc (Nat.le_refl _) _⟩
/-- A finite float and nothing, or an error. -/
def FinPost (n : Int) (w : World) (e : Ending) (w' : World) : Prop :=
  ((rint n.natAbs = infR ∧ ∃ a, e = .returned (.tuple #[.float .f64 0, .iface 102 (.pointer (some a))])) ∨ (rint n.natAbs ≠ infR ∧ e = .returned (.tuple #[.float .f64 (FW (decide (n < 0)) (rint n.natAbs)), .nilIface]))) ∧ Below w.heap.size w w'
set_option maxHeartbeats 2000000 in
theorem finite_float (n : Int) (hF : FloatsAt n) (B : Nat) (v : Value) (w : World) (hv : SI w B v n) :
    Calls Try.prog 38 #[v] w (FinPost n w) := by
  obtain ⟨x, p, rfl⟩ := si_fin (w' := w) hv
  have HF := Lib.hid hF
  have HV := Lib.hid hv
  have HB0 := Lib.hid ((Below.refl w.heap.size w).alloc (Nat.le_refl _) (.cells #[.int .i64 x, .pointer p] 57))
  obtain ⟨r, hr⟩ : ∃ r, r = rint n.natAbs := ⟨_, rfl⟩
  obtain ⟨f, hf⟩ : ∃ f, f = FW (decide (n < 0)) r := ⟨_, rfl⟩
  have HR := Lib.hid (And.intro hr hf)
  have HI := Lib.hid (fun W => isinf_fw (decide (n < 0)) r (by rw [hr]; exact rint_le _) W)
  rw [← hf] at HI
  have HFW : Hid (∀ W, SI W B (.agg #[.int .i64 x, .pointer p]) n → Calls Try.prog 45 #[.agg #[.int .i64 x, .pointer p]] W fun e w' => e = .returned (.float .f64 f) ∧ Below W.heap.size W w') := fun W h => by
    have := hF B _ W h
    unfold FloatPost at this
    rw [← hr, ← hf] at this
    exact this
  clear hF hv hr hf HF
  go_enter Try.func38, Try.ntmps38
  go_wp2_with fail
  refine (HFW.out _ (HV.out.below HB0.out)).mono ?_
  rintro e w1 ⟨rfl, hb1⟩
  have HB1 := Lib.hid (HB0.out.trans (hb1.mono HB0.out.size))
  clear hb1
  go_wp2_with fail
  refine (HI.out _).mono ?_
  unfold BPost
  rintro e w' ⟨rfl, rfl⟩
  by_cases hinf : r = infR
  · have hd : decide (r = infR) = true := decide_eq_true hinf
    have HINF := Lib.hid hinf
    rw [hd]
    clear hinf hd
    go_wp2_with fail
    refine (err_new _ _).mono ?_
    rintro e w2 ⟨a, rfl, hb2⟩
    have HB2 := Lib.hid (HB1.out.trans (hb2.mono HB1.out.size))
    clear hb2
    go_wp2
    go_ret2
    exact ⟨.inl ⟨by rw [← HR.out.1]; exact HINF.out, a, rfl⟩, HB2.out⟩
  · have hd : decide (r = infR) = false := decide_eq_false hinf
    have HINF := Lib.hid hinf
    rw [hd]
    clear hinf hd
    go_wp2
    go_ret2
    refine ⟨.inr ⟨by rw [← HR.out.1]; exact HINF.out, ?_⟩, HB1.out⟩
    rw [← HR.out.1, ← HR.out.2]
    rfl
theorem zz_finite (n : Int) (hF : FloatsAt n) (B : Nat) (v : Value) (w : World) (hv : SI w B v n) :
    Calls Try.prog 22 #[v] w (FinPost n w) := by
  obtain ⟨x, p, rfl⟩ := si_fin (w' := w) hv
  have HB0 := Lib.hid ((Below.refl w.heap.size w).alloc (Nat.le_refl _) (.cells #[.int .i64 x, .pointer p] 57))
  have HC := Lib.hid (finite_float n hF B _ _ (hv.below HB0.out))
  clear hF hv
  go_enter Try.func22, Try.ntmps22
  go_wp2_with fail
  refine HC.out.mono ?_
  rintro e w1 ⟨h, hb1⟩
  have HB1 := Lib.hid (HB0.out.trans (hb1.mono HB0.out.size))
  clear hb1 HC
  rcases h with ⟨h1, a, rfl⟩ | ⟨h1, rfl⟩
  · have H1 := Lib.hid h1
    clear h1
    go_wp2
    go_ret2
    exact ⟨.inl ⟨H1.out, a, rfl⟩, HB1.out⟩
  · have H1 := Lib.hid h1
    obtain ⟨f, hf⟩ : ∃ f, f = FW (decide (n < 0)) (rint n.natAbs) := ⟨_, rfl⟩
    have HFF := Lib.hid hf
    rw [← hf]
    clear h1 hf
    go_wp2
    go_ret2
    exact ⟨.inr ⟨H1.out, by rw [← HFF.out]; rfl⟩, HB1.out⟩
/-- What the thin package answers: the float's bits and true; 0 and false where it is infinite. -/
def ImplFinPost (n : Int) (w : World) (e : Ending) (w' : World) : Prop :=
  ((rint n.natAbs = infR ∧ e = .returned (.tuple #[.int .u64 0, .bool false])) ∨ (rint n.natAbs ≠ infR ∧ e = .returned (.tuple #[.int .u64 ((FW (decide (n < 0)) (rint n.natAbs) : Nat) : Int), .bool true]))) ∧ Below w.heap.size w w'
set_option maxHeartbeats 2000000 in
theorem impl_finite (B : Nat) (v : Value) (neg : Bool) (l : List Nat) (w : World) (hF : FloatsAt (intOf2 neg l)) (hv : IVal w B v neg l) (hl : l.length ≤ 1000) :
    Calls Try.prog 6 #[v] w (ImplFinPost (intOf2 neg l) w) := by
  obtain ⟨n, hn⟩ : ∃ n, n = intOf2 neg l := ⟨_, rfl⟩
  have HWH := Lib.hid (fun W (hW : Below w.heap.size w W) => impl_whole B v neg l W (hv.below hW) hl)
  rw [← hn] at hF HWH ⊢
  obtain ⟨vs, rfl, hob, _, _⟩ := hv
  obtain ⟨g, c, hvs, _, _, _, _⟩ := hob.form
  obtain ⟨m, hm⟩ : ∃ m, m = l.length := ⟨_, rfl⟩
  rw [← hm] at hvs
  subst hvs
  have HF := Lib.hid hF
  have HB0 := Lib.hid ((Below.refl w.heap.size w).alloc (Nat.le_refl _) (.cells #[.int .i64 2, .bool neg, .slice (some ⟨g, 0, none⟩) m c, .int .u64 0, .string ⟨#[]⟩, .slice none 0 0] 28))
  clear hF hob hn hm
  go_enter Try.func6, Try.ntmps6
  go_wp2_with fail
  refine (HWH.out _ HB0.out).mono ?_
  rintro e w1 ⟨v1, rfl, hsi, hb1⟩
  obtain ⟨x, p, rfl⟩ := si_fin (w' := w1) hsi
  have HZ := Lib.hid (zz_finite n HF.out _ _ w1 hsi)
  have HB1 := Lib.hid (HB0.out.trans (hb1.mono HB0.out.size))
  clear hsi hb1
  go_wp2_with fail
  refine HZ.out.mono ?_
  rintro e w2 ⟨h, hb2⟩
  have HB2 := Lib.hid (HB1.out.trans (hb2.mono HB1.out.size))
  clear hb2 HZ
  rcases h with ⟨h1, a, rfl⟩ | ⟨h1, rfl⟩
  · have H1 := Lib.hid h1
    clear h1
    go_wp2
    go_ret2
    exact ⟨.inl ⟨H1.out, rfl⟩, HB2.out⟩
  · have H1 := Lib.hid h1
    obtain ⟨f, hf⟩ : ∃ f, f = FW (decide (n < 0)) (rint n.natAbs) := ⟨_, rfl⟩
    have HFF := Lib.hid hf
    rw [← hf]
    clear h1 hf
    go_wp2
    go_ret2
    exact ⟨.inr ⟨H1.out, by rw [← HFF.out]; rfl⟩, HB2.out⟩
end Go.Proofs.Ytndeolcamgnmdaa
namespace Go.Proofs.Ytndeolcamgnmdaa
open Go.RowKit
theorem int64_min (B b : Nat) (ws : List Nat) (w : World) (h : BigI w B b true ws) (hs : valW ws = 9223372036854775808) :
    Calls Try.prog 51 #[.pointer (some ⟨b, 0, none⟩)] w (IntPost (valI true ws) w) := by
  obtain ⟨v, hz, how, htop, _, hlen⟩ := h
  obtain ⟨a, c, hv⟩ := how.shape
  obtain ⟨r, hr⟩ : ∃ r, r = ws.length := ⟨_, rfl⟩
  rw [← hr] at hv
  subst hv
  obtain ⟨c0, c1, f0, f1⟩ := blk2 hz
  have HOW := Lib.hid how
  have hmod : valW ws % W64 = 9223372036854775808 := by rw [hs]; rfl
  have hw1 : IntKind.i64.wrap 9223372036854775808 = -9223372036854775808 := by decide
  have hw2 : IntKind.i64.wrap (- (-9223372036854775808)) = -9223372036854775808 := by decide
  have HMOD := Lib.hid hmod
  have HV : Hid (valI true ws = -9223372036854775808) := by unfold Hid valI; rw [hs]; rfl
  clear hz how hr hmod hs
  go_enter Try.func51, Try.ntmps51
  go_wp2_with fail
  refine (low_64 B _ ws _ HOW.out).mono ?_
  rw [HMOD.out]
  rintro e w1 ⟨rfl, rfl⟩
  go_wp2
  go_ret
  exact ⟨ret_int (by rw [HV.out]), rfl⟩
theorem in64_int (neg : Bool) (ws : List Nat) (B b : Nat) (w : World) (h : BigI w B b neg ws) (hi : in64 neg ws.length (valW ws) = true) :
    Calls Try.prog 51 #[.pointer (some ⟨b, 0, none⟩)] w (IntPost (valI neg ws) w) := by
  unfold in64 at hi
  simp at hi
  rcases hi.2 with h1 | ⟨h1, h2⟩
  · exact int_int64 B b neg ws w h h1
  · subst h1
    exact int64_min B b ws w h h2
/-- An integer of more than 1024 bits has no finite float. -/
theorem rint_huge (N : Nat) (h : 2 ^ 1024 ≤ N) : rint N = infR := by
  have h0 : N ≠ 0 := fun e => by rw [e] at h; have := Nat.pow_pos (n := 1024) (by omega : 0 < 2); omega
  have hl : 1024 ≤ N.log2 := (Nat.le_log2 h0).2 h
  rw [rint_big N (by omega), infR_eq]
  refine Nat.min_eq_right ?_
  have h1 : 2046 * B52 ≤ (N.log2 + 1022) * B52 := Nat.mul_le_mul_right _ (by omega)
  have h2 : B52 ≤ cutG N (N.log2 - 52) := by
    have hq : B52 ≤ N / 2 ^ (N.log2 - 52) := by
      rw [Nat.le_div_iff_mul_le (Nat.pow_pos (by omega)), B52_two, ← Nat.pow_add, show 52 + (N.log2 - 52) = N.log2 by omega]
      exact Nat.log2_self_le h0
    unfold cutG
    omega
  omega
theorem valW_one {ws : List Nat} (h : ws.length ≤ 1) (hw : ∀ x ∈ ws, x < W64) : valW ws < W64 := by
  match ws, h with
  | [], _ => exact W64_pos
  | [x], _ =>
    have := hw x (by simp)
    simp [valW]
    exact this
theorem BigI.words {w : World} {B b : Nat} {neg : Bool} {ws : List Nat} (h : BigI w B b neg ws) : (∀ x ∈ ws, x < W64) ∧ TopNZ ws := by
  obtain ⟨_, _, how, ht, _⟩ := h
  exact ⟨how.2, ht⟩
theorem BigI.sign {w : World} {B b : Nat} {neg : Bool} {ws : List Nat} (h : BigI w B b neg ws) (h0 : 0 < valW ws) : decide (valI neg ws < 0) = neg := by
  unfold valI
  cases neg with
  | true => simp; omega
  | false => simp
theorem valW_pos {ws : List Nat} (ht : TopNZ ws) (h : ws ≠ []) : 0 < valW ws := by
  obtain ⟨init, last, rfl⟩ : ∃ init last, ws = init ++ [last] := ⟨ws.dropLast, ws.getLast h, (List.dropLast_concat_getLast h).symm⟩
  have hl0 : last ≠ 0 := by unfold TopNZ at ht; simpa using ht
  have h1 := valW_top init last hl0
  have h2 : 0 < W64 ^ init.length := Nat.pow_pos W64_pos
  omega
/-- What SetInt and Float64 of math/big are to do with an integer of at most 1024 bits. -/
def BigFloatAt (neg : Bool) (ws : List Nat) : Prop := ∃ Q : World → Nat → Prop,
  (∀ (B b f : Nat) (W : World), BigI W B b neg ws → b < f → Blk W f 99 #[.int .u32 0, .int .u8 0, .int .i8 0, .int .u8 0, .bool false, .slice none 0 0, .int .i32 0] → f + 1 = W.heap.size →
    Calls Try.prog 59 #[.pointer (some ⟨f, 0, none⟩), .pointer (some ⟨b, 0, none⟩)] W fun e w' => e = .returned (.pointer (some ⟨f, 0, none⟩)) ∧ Q w' f ∧ Below f W w') ∧
  (∀ (f : Nat) (W : World), Q W f → Calls Try.prog 60 #[.pointer (some ⟨f, 0, none⟩)] W fun e w' => ∃ acc : Int, e = .returned (.tuple #[.float .f64 (FW neg (rint (valW ws))), .int .i8 acc]) ∧ Below f W w')
set_option maxRecDepth 20000 in
set_option maxHeartbeats 4000000 in
theorem star_float (n : Int) (hB : ∀ neg ws, ws ≠ [] → blen ws ≤ 1024 → valI neg ws = n → BigFloatAt neg ws) (B : Nat) (v : Value) (w : World) (hv : SI w B v n) :
    Calls Try.prog 45 #[v] w (FloatPost n w) := by
  rcases hv with ⟨hsm, rfl⟩ | ⟨hsm, b, neg, ws, rfl, hBb, hbi, hval⟩
  · have hcv : floatOfInt FloatKind.f64 n = FW (decide (n < 0)) (rint n.natAbs) := nearest_int n
    obtain ⟨f, hf⟩ : ∃ f, f = FW (decide (n < 0)) (rint n.natAbs) := ⟨_, rfl⟩
    rw [← hf] at hcv
    have HF := Lib.hid hf
    have HB0 := Lib.hid ((Below.refl w.heap.size w).alloc (Nat.le_refl _) (.cells #[.int .i64 n, .pointer none] 57))
    clear hf hsm
    go_enter Try.func45, Try.ntmps45
    go_wp2_with fail
    refine (int_get n none _).mono ?_
    rintro e w1 ⟨rfl, hb1⟩
    have HB1 := Lib.hid (HB0.out.trans (hb1.mono HB0.out.size))
    clear hb1
    go_wp2
    go_ret
    refine ⟨?_, HB1.out⟩
    rw [← HF.out]
    rfl
  · have HBI := Lib.hid hbi
    have hbl := hbi.blk
    obtain ⟨N, hN⟩ : ∃ N, N = valW ws := ⟨_, rfl⟩
    have HN := Lib.hid hN
    have HB0 := Lib.hid ((Below.refl w.heap.size w).alloc (Nat.le_refl _) (.cells #[.int .i64 0, .pointer (some ⟨b, 0, none⟩)] 57))
    obtain ⟨f, hf⟩ : ∃ f, f = FW (decide (n < 0)) (rint n.natAbs) := ⟨_, rfl⟩
    have HF := Lib.hid hf
    have HVAL := Lib.hid hval
    unfold FloatPost
    rw [← hf]
    clear hsm hbi hN hval hf
    go_enter Try.func45, Try.ntmps45
    go_wp2_with fail
    refine (int_get 0 _ _).mono ?_
    rintro e w1 ⟨rfl, hb1⟩
    have HB1 := Lib.hid (HB0.out.trans (hb1.mono HB0.out.size))
    have HBI1 := Lib.hid (HBI.out.below HB1.out)
    clear hb1
    go_wp2_with fail
    refine (is_uint64 B b neg ws w1 HBI1.out).mono ?_
    unfold BoolPost
    rintro e w' ⟨rfl, rfl⟩
    have hwd := HBI.out.words
    cases hu : (!neg && decide (ws.length ≤ 1)) with
    | true =>
      have hneg : neg = false := by cases neg <;> simp at hu ⊢
      have hlen : ws.length ≤ 1 := by simp at hu; exact hu.2
      have hN64 := valW_one hlen hwd.1
      subst hneg
      have hn : n = (N : Int) := by rw [← HVAL.out, HN.out]; rfl
      have hcv : floatOfInt FloatKind.f64 (N : Int) = f := by rw [← hn, HF.out]; exact nearest_int n
      have HU := Lib.hid (big_u64 B b false ws w1 HBI1.out)
      rw [← HN.out, Nat.mod_eq_of_lt (by rw [HN.out]; exact hN64)] at HU
      clear hn hN64 hlen hu hwd
      go_wp2_with fail
      refine HU.out.mono ?_
      rintro e w' ⟨rfl, rfl⟩
      go_wp2
      go_ret
      exact ⟨rfl, HB1.out⟩
    | false =>
      clear hu
      have HI := Lib.hid (is_int64 B b neg ws w1 HBI1.out (fun h => valW_one h hwd.1))
      cases h64 : in64 neg ws.length (valW ws) with
      | true =>
        have HI6 := Lib.hid (in64_int neg ws B b w1 HBI1.out h64)
        rw [h64] at HI
        rw [HVAL.out] at HI6
        have hcv : floatOfInt FloatKind.f64 n = f := by rw [HF.out]; exact nearest_int n
        clear h64 hwd
        go_wp2_with fail
        refine HI.out.mono ?_
        unfold BoolPost
        rintro e w' ⟨rfl, rfl⟩
        go_wp2_with fail
        refine HI6.out.mono ?_
        unfold IntPost
        rintro e w' ⟨rfl, rfl⟩
        go_wp2
        go_ret
        exact ⟨rfl, HB1.out⟩
      | false =>
        rw [h64] at HI
        have HH6 := Lib.hid h64
        have HBL := Lib.hid (int_bitLen B b neg ws w1 HBI1.out)
        have HLE := Lib.hid (blen_le ws 1024 hwd.2 hwd.1)
        obtain ⟨bl, hbl⟩ : ∃ bl, bl = blen ws := ⟨_, rfl⟩
        unfold BLenPost at HBL
        have HBLE := Lib.hid hbl
        rw [← hbl] at HBL HLE
        clear h64 hwd hbl
        go_wp2_with fail
        refine HI.out.mono ?_
        unfold BoolPost
        rintro e w' ⟨rfl, rfl⟩
        go_wp2_with fail
        refine HBL.out.mono ?_
        rintro e w' ⟨rfl, rfl⟩
        by_cases hbig : 1024 < bl
        · have d1 : decide ((1024 : Int) < (bl : Int)) = true := by simp; omega
          have d1n : decide (1024 < bl) = true := by simp; omega
          have hge : 2 ^ 1024 ≤ valW ws := by
            rcases Nat.lt_or_ge (valW ws) (2 ^ 1024) with h | h
            · have := HLE.out.2 h; omega
            · exact h
          have hpos : 0 < valW ws := Nat.lt_of_lt_of_le (Nat.pow_pos (by omega)) hge
          have hne : ws ≠ [] := fun e => by rw [e] at hpos; simp [valW] at hpos
          have hsg : signW neg ws = if neg then -1 else 1 := by unfold signW; rw [if_neg hne]
          have hf : f = FW neg infR := by
            have h1 := HBI.out.sign hpos
            rw [HVAL.out] at h1
            have h2 : n.natAbs = valW ws := by rw [← HVAL.out]; unfold valI; cases neg <;> simp
            rw [HF.out, h1, h2, rint_huge _ hge]
          have HSG := Lib.hid (big_sign B b neg ws w1 HBI1.out)
          unfold SignWPost at HSG
          rw [hsg] at HSG
          have HINF := Lib.hid (math_inf neg w1)
          unfold FPost at HINF
          rw [← hf] at HINF
          obtain ⟨s, hs⟩ : ∃ s : Int, s = if neg then -1 else 1 := ⟨_, rfl⟩
          rw [← hs] at HSG HINF
          clear hge hpos hne hsg hf hs hbig
          go_wp2_with fail
          refine HSG.out.mono ?_
          rintro e w' ⟨rfl, rfl⟩
          go_wp2_with fail
          refine HINF.out.mono ?_
          rintro e w' ⟨rfl, rfl⟩
          go_wp2
          go_ret
          exact ⟨rfl, HB1.out⟩
        · have d1 : decide ((1024 : Int) < (bl : Int)) = false := by simp; omega
          have d1n : decide (1024 < bl) = false := by simp; omega
          have hne : ws ≠ [] := fun e => by
            have h := HH6.out
            rw [e] at h
            simp [in64, valW] at h
          have hpos := valW_pos (HBI.out.words).2 hne
          have hf : f = FW neg (rint (valW ws)) := by
            have h1 := HBI.out.sign hpos
            rw [HVAL.out] at h1
            have h2 : n.natAbs = valW ws := by rw [← HVAL.out]; unfold valI; cases neg <;> simp
            rw [HF.out, h1, h2]
          obtain ⟨Q, hset, hflt⟩ := hB neg ws hne (by rw [← HBLE.out]; omega) HVAL.out
          rw [← hf] at hflt
          have HSET := Lib.hid hset
          have HFLT := Lib.hid hflt
          have hb1l : b < w1.heap.size := HBI1.out.blk
          clear hne hpos hf hset hflt hbig hB
          go_wp2_with fail
          refine (HSET.out B b w1.heap.size _ (HBI1.out.below ((Below.refl _ _).alloc (Nat.le_refl _) _)) hb1l (Blk.new w1 _ _) (by simp)).mono ?_
          rintro e w5 ⟨rfl, hq, hb5⟩
          have HQ := Lib.hid hq
          have HB5 := Lib.hid ((HB1.out.alloc HB1.out.size (.cells #[.int .u32 0, .int .u8 0, .int .i8 0, .int .u8 0, .bool false, .slice none 0 0, .int .i32 0] 99)).trans (hb5.mono HB1.out.size))
          clear hq hb5
          go_wp2_with fail
          refine (HFLT.out _ _ HQ.out).mono ?_
          rintro e w6 ⟨acc, rfl, hb6⟩
          have HB6 := Lib.hid (HB5.out.trans (hb6.mono HB1.out.size))
          clear hb6
          go_wp2
          go_ret
          exact ⟨rfl, HB6.out⟩
end Go.Proofs.Ytndeolcamgnmdaa
namespace Go.Proofs.Ytndeolcamgnmdaa
open Go.RowKit
theorem top_word (N m k s T L : Nat) (ms : List Nat) (hw : ∀ x ∈ ms, x < W64) (hml : ms.length = m) (hmk : m = k + 1) (hk : k < ms.length) (hT : ms[k]'hk = T) (hv : valW ms = N * 2 ^ s) (hL : L + s = 64 * m) (hlog : N.log2 + 1 = L) (h0 : N ≠ 0) :
    N * 2 ^ s = T * 2 ^ (64 * (m - 1)) + valW (ms.take k) ∧ valW (ms.take k) < 2 ^ (64 * (m - 1)) ∧ 9223372036854775808 ≤ T := by
  have e1 : W64 ^ k = 2 ^ (64 * k) := by rw [W64_two, ← Nat.pow_mul]
  have hlow : valW (ms.take k) < W64 ^ k := by
    have h1 := valW_lt (ms.take k) (fun x hx => hw x (List.mem_of_mem_take hx))
    rw [List.length_take, Nat.min_eq_left (by omega)] at h1
    exact h1
  have hd : ms.drop k = [T] := by
    rw [List.drop_eq_getElem_cons hk, hT, List.drop_of_length_le (by omega)]
  have hsum : valW ms = valW (ms.take k) + W64 ^ k * T := by
    conv => lhs; rw [← List.take_append_drop k ms, valW_append, hd]
    rw [List.length_take, Nat.min_eq_left (by omega)]
    simp [valW]
  have e2 : m - 1 = k := by omega
  rw [e2, ← e1]
  refine ⟨by rw [← hv, hsum, Nat.mul_comm T]; omega, hlow, ?_⟩
  have h2 : 2 ^ (N.log2 + s) ≤ N * 2 ^ s := by rw [Nat.pow_add]; exact Nat.mul_le_mul_right _ (Nat.log2_self_le h0)
  rw [← hv, hsum, show N.log2 + s = 64 * k + 63 by omega, Nat.pow_add, ← e1] at h2
  rcases Nat.lt_or_ge T 9223372036854775808 with h3 | h3
  · have h4 : W64 ^ k * (T + 1) ≤ W64 ^ k * 2 ^ 63 := Nat.mul_le_mul_left _ (by omega)
    rw [Nat.mul_add] at h4
    omega
  · exact h3
theorem roundK_range (T low : Nat) (h : 9223372036854775808 ≤ T) (h2 : T < W64) : 4503599627370496 ≤ roundK T low ∧ roundK T low ≤ 9007199254740992 := by
  unfold roundK
  unfold W64 at h2
  split <;> omega
theorem K53 : 9007199254740992 = 2 * B52 := by decide
theorem rung_inf (R L K : Nat) (h : R = min ((L + 1021) * B52 + K) infR) (hL : L = 1024) (hK : K = 9007199254740992) : R = infR := by
  rw [h, hL, hK, K53, infR_eq]
  generalize B52 = b
  omega
/-- The word's fields put together. -/
theorem rung_fin (R L K E M : Nat) (h : R = min ((L + 1021) * B52 + K) infR) (hE : (K = 9007199254740992 ∧ E = L + 1) ∨ (K < 9007199254740992 ∧ E = L)) (hK : 4503599627370496 ≤ K) (hM : M = (if K = 9007199254740992 then 9223372036854775808 else 2048 * K)) (h2 : E ≤ 1024) : R = (E + 1022) * B52 + M / 2048 % B52 := by
  have e0 : 4503599627370496 = B52 := by decide
  have e1 := K53
  have e2 : 9223372036854775808 = 2048 * B52 := by decide
  rw [e0] at hK
  rw [e1] at hE hM
  rw [e2] at hM
  rw [h, infR_eq]
  have hb := B52_pos
  generalize B52 = b at *
  have h5 : (L + 1021) * b = L * b + 1021 * b := Nat.add_mul _ _ _
  have h6 : (E + 1022) * b = E * b + 1022 * b := Nat.add_mul _ _ _
  rcases hE with ⟨h3, h4⟩ | ⟨h3, h4⟩
  · rw [if_pos h3] at hM
    subst h3 h4
    have h7 : M / 2048 = b := by omega
    rw [h7, Nat.mod_self, h5, h6, Nat.add_mul]
    have h8 : L * b ≤ 1023 * b := Nat.mul_le_mul_right _ (by omega)
    omega
  · rw [if_neg (by omega)] at hM
    subst h4
    have h7 : M / 2048 = K := by omega
    have h9 : K % b = K - b := by rw [Nat.mod_eq_sub_mod hK, Nat.mod_eq_of_lt (by omega)]
    rw [h7, h9, h5, h6]
    have h8 : E * b ≤ 1024 * b := Nat.mul_le_mul_right _ (by omega)
    omega
theorem and_low52 (q : Nat) (h : q < 18446744073709551616) : bits .and .u64 (q : Int) 4503599627370495 = ((q % 4503599627370496 : Nat) : Int) := by
  have h1 := u64_and_nat q 4503599627370495 h (by omega)
  rw [show ((4503599627370495 : Nat) : Int) = 4503599627370495 from rfl] at h1
  rw [h1, show (4503599627370495 : Nat) = 2 ^ 52 - 1 by decide, Nat.and_two_pow_sub_one_eq_mod]
theorem or_fields (neg : Bool) (bx X Y Z1 Z R : Nat) (hb : bx < 2048) (hX : X = bx * 4503599627370496) (hY : Y < 4503599627370496) (hZ1 : Z1 = (if neg then 9223372036854775808 + X else X)) (hZ : Z = FW neg R) (hR : R = bx * B52 + Y) :
    bits .or .u64 (if neg then 9223372036854775808 else 0) (X : Int) = (Z1 : Int) ∧ bits .or .u64 (Z1 : Int) (Y : Int) = (Z : Int) := by
  have hB : B52 = 4503599627370496 := rfl
  have hS : S63 = 9223372036854775808 := rfl
  have hX2 : X < 9223372036854775808 := by omega
  have hR2 : R = X + Y := by rw [hR, hX, hB]
  have or2 : ∀ f : Nat, f < 4096 → bits .or .u64 ((f * B52 : Nat) : Int) (Y : Int) = ((f * B52 + Y : Nat) : Int) := fun f hf => by
    have ec : bits .or .u64 ((f * B52 : Nat) : Int) (Y : Int) = bits .or .u64 (Y : Int) ((f * B52 : Nat) : Int) := by simp only [bits, BitVec.or_comm]
    rw [ec]; exact set_exp Y f (by rw [hB]; exact hY) hf
  cases neg with
  | true =>
    have e1 : bits .or .u64 9223372036854775808 (X : Int) = ((9223372036854775808 + X : Nat) : Int) := by
      have h1 := u64_or_nat 9223372036854775808 X (by omega) (by omega)
      rw [show ((9223372036854775808 : Nat) : Int) = 9223372036854775808 from rfl] at h1
      rw [h1]
      congr 1
      have := or_disj 1 X 63 (by omega)
      simpa using this
    rw [if_pos rfl] at hZ1
    refine ⟨by rw [hZ1]; exact e1, ?_⟩
    have e2 := or2 (2048 + bx) (by omega)
    rw [show (2048 + bx) * B52 = Z1 by rw [hZ1, hX, hB]; omega] at e2
    rw [e2, hZ, fw_true, hZ1, hR2, hS]
    congr 1
    omega
  | false =>
    have e1 : bits .or .u64 0 (X : Int) = (X : Int) := by
      have h1 := u64_or_nat 0 X (by omega) (by omega)
      rw [show ((0 : Nat) : Int) = 0 from rfl, Nat.zero_or] at h1
      exact h1
    rw [if_neg (by simp)] at hZ1
    refine ⟨by rw [hZ1]; exact e1, ?_⟩
    have e2 := or2 bx (by omega)
    rw [show bx * B52 = Z1 by rw [hZ1, hX, hB]] at e2
    rw [e2, hZ, fw_false, hZ1, hR2]
def Float64Post (neg : Bool) (N : Nat) (w : World) (e : Ending) (w' : World) : Prop := ∃ acc : Int, e = .returned (.tuple #[.float .f64 (FW neg (rint N)), .int .i8 acc]) ∧ Below w.heap.size w w'
set_option maxRecDepth 20000 in
set_option maxHeartbeats 4000000 in
theorem float_64 (f N : Nat) (neg : Bool) (w : World) (h : FlInt w f neg N) (hN : N ≠ 0) (hlg : N.log2 + 1 ≤ 1024) :
    Calls Try.prog 60 #[.pointer (some ⟨f, 0, none⟩)] w (Float64Post neg N w) := by
  obtain ⟨gz, m, c, ms, L, s, p, hf, hm, hv, hLs, hlog, hp, hp2, hmm, hm0⟩ := h
  obtain ⟨k, hmk⟩ : ∃ k, m = k + 1 := ⟨m - 1, by omega⟩
  have hml := hm.len
  have hk : k < ms.length := by omega
  obtain ⟨T, hT⟩ : ∃ T, ms[k]'hk = T := ⟨_, rfl⟩
  have hT64 : T < W64 := by rw [← hT]; exact hm.2 _ (List.getElem_mem _)
  obtain ⟨h1, h2, h3⟩ := top_word N m k s T L ms hm.2 hml.symm hmk hk hT hv hLs hlog hN
  have hbb := big_bits N L m s T _ hlog hN hm0 hLs h1 h2
  obtain ⟨K, hK⟩ : ∃ K, K = roundK T (valW (ms.take k)) := ⟨_, rfl⟩
  rw [← hK] at hbb
  obtain ⟨hK1, hK2⟩ := roundK_range T (valW (ms.take k)) h3 hT64
  rw [← hK] at hK1 hK2
  obtain ⟨c0, c1, c2, c3, c4, c5, c6, fz⟩ := blk7 hf
  rw [show ((1 : Nat) : Int) = 1 from rfl] at c3
  have hfl := hf.lt
  have hb1 : FlB (w.alloc (.cells #[.int .u32 53, .int .u8 0, .int .i8 0, .int .u8 0, .bool false, .slice none 0 0, .int .i32 0] 99)) w.heap.size 53 0 0 false (.slice none 0 0) 0 := by
    exact Blk.new w 99 #[.int .u32 53, .int .u8 0, .int .i8 0, .int .u8 0, .bool false, .slice none 0 0, .int .i32 0]
  have hbw : Below w.heap.size w (w.alloc (.cells #[.int .u32 53, .int .u8 0, .int .i8 0, .int .u8 0, .bool false, .slice none 0 0, .int .i32 0] 99)) :=
    (Below.refl w.heap.size w).alloc (Nat.le_refl _) _
  have HS := Lib.hid (set_53 f w.heap.size gz m c L p k T neg ms _ (hf.below hbw hfl) (hm.below hbw) hb1 (by simp) hfl hp hmm hmk hk hT (by omega))
  unfold Set53Post at HS
  rw [← hK] at HS
  have HF := Lib.hid hf
  have HBW := Lib.hid hbw
  have HBB := Lib.hid hbb
  obtain ⟨l1, hl1⟩ : ∃ l1 : Nat, (L : Int) - 1 = (l1 : Int) := ⟨L - 1, by omega⟩
  have hwl1 : IntKind.i32.wrap (l1 : Int) = (l1 : Int) := by rw [IntKind.wrap_i32]; omega
  have hd1 : decide ((l1 : Int) < -1022) = false := by rw [decide_eq_false_iff_not]; omega
  have hL1024 : L ≤ 1024 := by omega
  have hL1 : 1 ≤ L := by omega
  clear hf hm hv hLs hlog hmk hml hT hT64 h1 h2 h3 hb1 hbw hK hbb
  obtain ⟨E, hE⟩ : ∃ E, E = L + K / 9007199254740992 := ⟨_, rfl⟩
  obtain ⟨M, hM⟩ : ∃ M, M = (if K = 9007199254740992 then 9223372036854775808 else 2048 * K) := ⟨_, rfl⟩
  rw [← hE, ← hM] at HS
  obtain ⟨e1, he1⟩ : ∃ e1 : Nat, (E : Int) - 1 = (e1 : Int) := ⟨E - 1, by omega⟩
  have hEE : (K = 9007199254740992 ∧ E = L + 1) ∨ (K < 9007199254740992 ∧ E = L) := by omega
  have hwe1 : IntKind.i32.wrap (e1 : Int) = (e1 : Int) := by rw [IntKind.wrap_i32]; omega
  have hd2 : decide ((e1 : Int) < -1022) = false := by rw [decide_eq_false_iff_not]; omega
  have HE := Lib.hid hE
  have HM := Lib.hid hM
  have HEE := Lib.hid hEE
  clear hE hM hEE
  by_cases hinf : 1023 < e1
  · have hd3 : decide ((1023 : Int) < (e1 : Int)) = true := by simp; omega
    have hd4 : decide (1023 < e1) = true := by simp; omega
    have HR : Hid (rint N = infR) := by
      have h5 := HEE.out
      exact rung_inf _ L K HBB.out (by omega) (by omega)
    cases neg with
    | true =>
      have HI : Hid (∀ W, Calls Try.prog 37 #[.int .i64 (-1)] W (FPost (FW true infR) W)) := fun W => math_inf true W
      go_enter Try.func60, Try.ntmps60
      go_wp2_with fail
      refine HS.out.mono ?_
      rintro en w2 ⟨rfl, acc, g2, c2', h21, h22, h23⟩
      have hf2 := HF.out.below (HBW.out.trans h23) (by exact HF.out.lt)
      obtain ⟨d0, d1, d2, d3, d4, d5, d6, dz⟩ := blk7 hf2
      obtain ⟨r0, r1, r2, r3, r4, r5, r6, rz⟩ := blk7 h21
      have H23 := Lib.hid h23
      clear h21 h22 h23 hf2 c0 c1 c2 c3 c4 c5 c6 fz
      go_wp2_with fail
      refine (HI.out _).mono ?_
      rintro en w3 ⟨rfl, rfl⟩
      go_wp2
      go_ret2
      refine ⟨-1, ?_, HBW.out.trans H23.out⟩
      rw [HR.out]
      rfl
    | false =>
      have HI : Hid (∀ W, Calls Try.prog 37 #[.int .i64 1] W (FPost (FW false infR) W)) := fun W => math_inf false W
      go_enter Try.func60, Try.ntmps60
      go_wp2_with fail
      refine HS.out.mono ?_
      rintro en w2 ⟨rfl, acc, g2, c2', h21, h22, h23⟩
      have hf2 := HF.out.below (HBW.out.trans h23) (by exact HF.out.lt)
      obtain ⟨d0, d1, d2, d3, d4, d5, d6, dz⟩ := blk7 hf2
      obtain ⟨r0, r1, r2, r3, r4, r5, r6, rz⟩ := blk7 h21
      have H23 := Lib.hid h23
      clear h21 h22 h23 hf2 c0 c1 c2 c3 c4 c5 c6 fz
      go_wp2_with fail
      refine (HI.out _).mono ?_
      rintro en w3 ⟨rfl, rfl⟩
      go_wp2
      go_ret2
      refine ⟨1, ?_, HBW.out.trans H23.out⟩
      rw [HR.out]
      rfl
  · have hd3 : decide ((1023 : Int) < (e1 : Int)) = false := by simp; omega
    have hd4 : decide (1023 < e1) = false := by simp; omega
    have hR := rung_fin (rint N) L K E M HBB.out HEE.out hK1 HM.out (by omega)
    have hM64 : M < 18446744073709551616 := by rw [HM.out]; split <;> omega
    obtain ⟨bx, hbx⟩ : ∃ bx : Nat, (e1 : Int) + 1023 = (bx : Int) := ⟨e1 + 1023, by omega⟩
    have hwb : IntKind.i32.wrap (bx : Int) = (bx : Int) := by rw [IntKind.wrap_i32]; omega
    have hwb2 : IntKind.u64.wrap (bx : Int) = (bx : Int) := wrap64_small _ (by omega) (by omega)
    have hbx2 : bx = E + 1022 := by omega
    rw [← hbx2] at hR
    have hbb : bx < 2048 := by omega
    obtain ⟨q, hq⟩ : ∃ q : Nat, (M : Int) / 2048 = (q : Int) ∧ q = M / 2048 := ⟨M / 2048, by omega, rfl⟩
    have hq1 := hq.1
    have hq2 : q < 18446744073709551616 := by have := hq.2; omega
    obtain ⟨Y, hY⟩ : ∃ Y, Y = q % 4503599627370496 := ⟨_, rfl⟩
    have hY1 : bits .and .u64 (q : Int) 4503599627370495 = (Y : Int) := by rw [hY]; exact and_low52 q hq2
    obtain ⟨X, hX⟩ : ∃ X : Nat, (bx : Int) * 4503599627370496 = (X : Int) ∧ X = bx * 4503599627370496 := ⟨bx * 4503599627370496, by omega, rfl⟩
    have hX1 := hX.1
    have hX64 : X < 9223372036854775808 := by have := hX.2; omega
    have hwX : IntKind.u64.wrap (X : Int) = (X : Int) := wrap64_small _ (by omega) (by omega)
    obtain ⟨Z, hZ⟩ : ∃ Z, Z = FW neg (rint N) := ⟨_, rfl⟩
    obtain ⟨Z1, hZ1⟩ : ∃ Z1, Z1 = (if neg then 9223372036854775808 + X else X) := ⟨_, rfl⟩
    have hors := or_fields neg bx X Y Z1 Z (rint N) hbb hX.2 (by omega) hZ1 hZ (by rw [hR, hY, hq.2]; rfl)
    have hor2 := hors.2
    have HFW := Lib.hid hZ
    unfold Float64Post
    rw [← hZ]
    clear hq hY hX hZ hR hM64 hbx2
    cases neg with
    | true =>
      have hor1 : bits .or .u64 9223372036854775808 (X : Int) = (Z1 : Int) := hors.1
      clear hors hZ1
      go_enter Try.func60, Try.ntmps60
      go_wp2_with fail
      refine HS.out.mono ?_
      rintro en w2 ⟨rfl, acc, g2, c2', h21, h22, h23⟩
      have hf2 := HF.out.below (HBW.out.trans h23) (by exact HF.out.lt)
      obtain ⟨d0, d1, d2, d3, d4, d5, d6, dz⟩ := blk7 hf2
      obtain ⟨r0, r1, r2, r3, r4, r5, r6, rz⟩ := blk7 h21
      have HMS := Lib.hid (msb_64 (w.heap.size + 1) g2 c2' 1 0 [M] w2 h22 rfl (by simp) (by omega))
      simp only [List.getElem_cons_zero] at HMS
      have H23 := Lib.hid h23
      clear h21 h22 h23 hf2 c0 c1 c2 c3 c4 c5 c6 fz
      go_wp2_with fail
      refine HMS.out.mono ?_
      rintro en w3 ⟨rfl, rfl⟩
      go_wp2_with fail
      go_quiet (fail)
      go_wp2
      go_ret2
      refine ⟨acc, ?_, ((HBW.out.trans H23.out).trans (below_dn (Below.refl _ w2) _))⟩
      rfl
    | false =>
      have hor1 : bits .or .u64 0 (X : Int) = (Z1 : Int) := hors.1
      clear hors hZ1
      go_enter Try.func60, Try.ntmps60
      go_wp2_with fail
      refine HS.out.mono ?_
      rintro en w2 ⟨rfl, acc, g2, c2', h21, h22, h23⟩
      have hf2 := HF.out.below (HBW.out.trans h23) (by exact HF.out.lt)
      obtain ⟨d0, d1, d2, d3, d4, d5, d6, dz⟩ := blk7 hf2
      obtain ⟨r0, r1, r2, r3, r4, r5, r6, rz⟩ := blk7 h21
      have HMS := Lib.hid (msb_64 (w.heap.size + 1) g2 c2' 1 0 [M] w2 h22 rfl (by simp) (by omega))
      simp only [List.getElem_cons_zero] at HMS
      have H23 := Lib.hid h23
      clear h21 h22 h23 hf2 c0 c1 c2 c3 c4 c5 c6 fz
      go_wp2_with fail
      refine HMS.out.mono ?_
      rintro en w3 ⟨rfl, rfl⟩
      go_wp2_with fail
      go_quiet (fail)
      go_wp2
      go_ret2
      refine ⟨acc, ?_, ((HBW.out.trans H23.out).trans (below_dn (Below.refl _ w2) _))⟩
      rfl
end Go.Proofs.Ytndeolcamgnmdaa
namespace Go.Proofs.Ytndeolcamgnmdaa
open Go.RowKit
attribute [local go_sem ↓] Go.wp_at_zero Go.wp_at_succ
theorem pair_facts2 {w w1 W' : World} {t1 t2 : TypeId} {a b c0 c1 c2 c3 c4 c5 : Value} (hb : Below w.heap.size w w1) (h : Below (w1.heap.size + 1 + 1) ((w1.alloc (.cells #[a, b] t1)).alloc (.cells #[c0, c1, c2, c3, c4, c5] t2)) W') :
    (W'.cell? ⟨w1.heap.size, 0, none⟩ = some a ∧ W'.cell? ⟨w1.heap.size, 1, none⟩ = some b ∧ W'.frozen? ⟨w1.heap.size, 0, none⟩ = false ∧ W'.frozen? ⟨w1.heap.size, 1, none⟩ = false) ∧
    (W'.cell? ⟨w1.heap.size + 1, 0, none⟩ = some c0 ∧ W'.cell? ⟨w1.heap.size + 1, 1, none⟩ = some c1 ∧ W'.cell? ⟨w1.heap.size + 1, 2, none⟩ = some c2 ∧ W'.cell? ⟨w1.heap.size + 1, 3, none⟩ = some c3 ∧ W'.cell? ⟨w1.heap.size + 1, 4, none⟩ = some c4 ∧ W'.cell? ⟨w1.heap.size + 1, 5, none⟩ = some c5 ∧
      W'.frozen? ⟨w1.heap.size + 1, 0, none⟩ = false ∧ W'.frozen? ⟨w1.heap.size + 1, 1, none⟩ = false ∧ W'.frozen? ⟨w1.heap.size + 1, 2, none⟩ = false ∧ W'.frozen? ⟨w1.heap.size + 1, 3, none⟩ = false ∧ W'.frozen? ⟨w1.heap.size + 1, 4, none⟩ = false ∧ W'.frozen? ⟨w1.heap.size + 1, 5, none⟩ = false) ∧
    Below w1.heap.size w1 W' ∧ Below w.heap.size w W' := by
  have hw1 : Below w1.heap.size w1 W' := (((Below.refl _ w1).alloc (Nat.le_refl _) _).alloc (by simp) _).trans (h.mono (by omega))
  refine ⟨blk2 (Blk.below (w' := W') (Blk.alloc (Blk.new w1 t1 #[a, b]) (.cells #[c0, c1, c2, c3, c4, c5] t2)) h (by omega)),
    blk6 (Blk.below (w' := W') ((Blk.new_at (w1.alloc (.cells #[a, b] t1)) t2 #[c0, c1, c2, c3, c4, c5] (n := w1.heap.size + 1) (by simp))) h (by omega)), hw1, hb.trans (hw1.mono hb.size)⟩
theorem rint_two : rint 2 = 4611686018427387904 := by decide +kernel
set_option maxRecDepth 20000 in
set_option maxHeartbeats 4000000 in
theorem fin_law (hbf : ∀ neg ws, ws ≠ [] → blen ws ≤ 1024 → BigFloatAt neg ws) (an : Bool) (a : Option Addr) (len cap : Nat) (zs : List Int) (w : World) (h : IsRow .u8 w a len cap zs) :
    Calls Try.prog 3 #[.bool an, .slice a len cap] w fun e w' => e = .returned (.bool true) ∧ Below w.heap.size w w' := by
  have HFL : Hid (∀ n, FloatsAt n) := fun n B v W hv => star_float n (fun neg ws h1 h2 _ => hbf neg ws h1 h2) B v W hv
  clear hbf
  by_cases hs : len ≤ 2147483647
  · have hd : decide ((2147483647 : Int) < (len : Int)) = false := by simp; omega
    obtain ⟨hb, hlen⟩ := bsl_of_row h
    obtain ⟨l, hl⟩ : ∃ l, l = (zs.take len).map Int.toNat := ⟨_, rfl⟩
    rw [← hl] at hb hlen
    obtain ⟨m, hm⟩ : ∃ m, (len ≤ 150 ∧ m = len) ∨ (150 < len ∧ m = 150) := by
      by_cases h4 : len ≤ 150
      · exact ⟨_, .inl ⟨h4, rfl⟩⟩
      · exact ⟨_, .inr ⟨by omega, rfl⟩⟩
    have HWA := Lib.hid (show ∀ W', Below w.heap.size w W' → Calls Try.prog 4 #[.bool an, .slice a len cap, .int .i64 150] W' (WholePost an (l.take m) W') from fun W' hbw => whole_at an a len cap 150 m l W' (hb.old hbw) (by omega) hm)
    obtain ⟨ll, hll⟩ : ∃ ll, ll = strip (l.take m) := ⟨_, rfl⟩
    obtain ⟨nb, hnb⟩ : ∃ nb, nb = negOf an (l.take m) := ⟨_, rfl⟩
    have hlen2 : ll.length ≤ 150 := by
      rw [hll]
      refine Nat.le_trans (strip_le _) ?_
      rw [List.length_take]
      omega
    have HL := Lib.hid hlen2
    unfold WholePost at HWA
    rw [← hll, ← hnb] at HWA
    clear hm hlen hb hl h hs hll hnb hlen2
    go_enter Try.func3, Try.ntmps3
    go_wp2_with fail
    refine (HWA.out _ (Below.refl _ _)).mono ?_
    rintro e w1 ⟨v, u, rfl, hsi, hiv, hb1⟩
    have HSI := Lib.hid hsi
    have HIV := Lib.hid hiv
    have HB1 := Lib.hid hb1
    obtain ⟨vs, rfl, hov, hh, hnn⟩ := hsi
    obtain ⟨us, rfl, hou, _, _⟩ := hiv
    obtain ⟨g, c, hvs, _, _, _, _⟩ := hov.form
    obtain ⟨g2, c2, hus, _, _, _, _⟩ := hou.form
    obtain ⟨r, hr⟩ : ∃ r, r = ll.length := ⟨_, rfl⟩
    rw [← hr] at hvs hus
    subst hvs hus
    have hsg : decide (intOf2 nb ll < 0) = nb := by
      cases nb with
      | false => simp [intOf2]
      | true =>
        have h0 : natOf ll ≠ 0 := fun h => hnn rfl ((natOf_eq_zero hh).1 h)
        simp [intOf2]
        omega
    have hab : (intOf2 nb ll).natAbs = natOf ll := by cases nb <;> simp [intOf2]
    obtain ⟨R, hR⟩ : ∃ R, R = rint (natOf ll) := ⟨_, rfl⟩
    obtain ⟨f, hf⟩ : ∃ f, f = FW nb R := ⟨_, rfl⟩
    have HRF := Lib.hid (And.intro hR hf)
    have HRI : Hid (R ≤ infR) := by rw [hR]; exact rint_le _
    have HSA := Lib.hid (And.intro hsg hab)
    clear hb1 hov hou hr hsg hab hR hf hh hnn
    go_wp2_with fail
    have C0 := Lib.hid (Below.refl (w1.heap.size + 1 + 1) ((w1.alloc (.cells #[.bool nb, .slice (some ⟨g, 0, none⟩) r c] 24)).alloc (.cells #[.int .i64 2, .bool nb, .slice (some ⟨g2, 0, none⟩) r c2, .int .u64 0, .string ⟨#[]⟩, .slice none 0 0] 28)))
    refine (nearest_any _ _ nb ll _ (HSI.out.below (pair_facts2 HB1.out C0.out).2.2.1) (by have := HL.out; omega)).mono ?_
    unfold NearPost
    rw [← HRF.out.1, ← HRF.out.2]
    rintro e w2 ⟨rfl, hb2⟩
    have C1 := Lib.hid (C0.out.trans (hb2.mono (by simp)))
    obtain ⟨_, ⟨c0, c1', c2', c3, c4, c5, _⟩, _, _⟩ := pair_facts2 HB1.out C1.out
    have HIF := Lib.hid (impl_finite _ _ nb ll w2 (HFL.out _) (HIV.out.below (pair_facts2 HB1.out C1.out).2.2.1) (by have := HL.out; omega))
    have HB2 := Lib.hid (pair_facts2 HB1.out C1.out).2.2.2
    clear hb2
    go_wp2_with fail
    refine HIF.out.mono ?_
    unfold ImplFinPost
    rw [HSA.out.1, HSA.out.2, ← HRF.out.1, ← HRF.out.2]
    rintro e w3 ⟨hq, hb3⟩
    have HB3 := Lib.hid (HB2.out.trans (hb3.mono HB2.out.size))
    clear hb3 HIF c0 c1' c2' c3 c4 c5
    obtain ⟨bits, ok, rfl, hbo⟩ : ∃ (bits : Nat) (ok : Bool), e = .returned (.tuple #[.int .u64 (bits : Int), .bool ok]) ∧ ok = !decide (R = infR) ∧ (ok = true → bits = f) := by
      rcases hq with ⟨h1, rfl⟩ | ⟨h1, rfl⟩
      · exact ⟨0, false, rfl, by rw [decide_eq_true h1]; rfl, by simp⟩
      · exact ⟨f, true, rfl, by rw [decide_eq_false h1]; rfl, fun _ => rfl⟩
    have HBO := Lib.hid hbo
    clear hq hbo
    go_wp2_with fail
    refine (small_any 2 (by unfold W64; decide) _).mono ?_
    rintro e w4 ⟨v4, n4, l4, rfl, hsi4, hby4, hn4, hb4⟩
    have HB4 := Lib.hid (HB3.out.trans (hb4.mono HB3.out.size))
    have hl4 := intOf2_len (sint_head hsi4) hn4 (by omega) (by omega)
    have HTO := Lib.hid (told_any _ _ n4 l4 w4 hsi4 (by omega))
    have H4 := Lib.hid (And.intro hn4 hl4)
    obtain ⟨g4, c4', rfl⟩ := hsi4.lit2
    clear hsi4 hby4 hn4 hb4 hl4
    go_wp2_with fail
    refine HTO.out.mono ?_
    rintro e w5 ⟨v5, rfl, hiv5, hb5⟩
    have HB5 := Lib.hid (HB4.out.trans (hb5.mono HB4.out.size))
    have HI5 := Lib.hid (impl_finite _ _ n4 l4 w5 (HFL.out _) hiv5 (by have := H4.out.2; omega))
    obtain ⟨us5, rfl, hou5, _, _⟩ := hiv5
    obtain ⟨g5, c5', hus5, _, _, _, _⟩ := hou5.form
    subst hus5
    clear hb5 hou5 HTO
    go_wp2_with fail
    refine HI5.out.mono ?_
    unfold ImplFinPost
    rw [H4.out.1]
    rintro e w6 ⟨hq, hb6⟩
    have HB6 := Lib.hid (HB5.out.trans (hb6.mono HB5.out.size))
    have h2 : rint (2 : Int).natAbs ≠ infR := by show rint 2 ≠ infR; rw [rint_two]; decide
    have hq2 : e = .returned (.tuple #[.int .u64 4611686018427387904, .bool true]) := by
      rcases hq with ⟨h1, _⟩ | ⟨_, h1⟩
      · exact absurd h1 h2
      · rw [h1, show rint (2 : Int).natAbs = rint 2 from rfl, rint_two]
        rfl
    subst hq2
    have HFI := Lib.hid (fun W => spec_finite nb R HRI.out W)
    rw [← HRF.out.2] at HFI
    clear hq hb6 HI5 h2
    go_wp2_with fail
    refine (HFI.out _).mono ?_
    unfold BPost
    rintro e w' ⟨rfl, rfl⟩
    obtain ⟨hok, hbits⟩ := HBO.out
    by_cases hi : R = infR
    · have hd : decide (R = infR) = true := decide_eq_true hi
      rw [hd] at hok ⊢
      obtain rfl : ok = false := hok
      clear hi hd hbits HRI HRF
      go_wp2
      go_ret
      exact ⟨rfl, HB6.out⟩
    · have hd : decide (R = infR) = false := decide_eq_false hi
      rw [hd] at hok ⊢
      obtain rfl : ok = true := hok
      obtain rfl : bits = f := hbits rfl
      clear hi hd hbits HRI HRF
      go_wp2
      go_ret
      exact ⟨rfl, HB6.out⟩
  · have hd : decide ((2147483647 : Int) < (len : Int)) = true := by simp; omega
    clear hs
    go_enter Try.func3, Try.ntmps3
    go_wp2
    go_ret
    exact ⟨rfl, Below.refl _ _⟩
end Go.Proofs.Ytndeolcamgnmdaa
namespace Go.Proofs.Ytndeolcamgnmdaa
open Go.RowKit
theorem big_float (neg : Bool) (ws : List Nat) (h0 : ws ≠ []) (hb : blen ws ≤ 1024) : BigFloatAt neg ws := by
  refine ⟨fun W f => FlInt W f neg (valW ws) ∧ valW ws ≠ 0 ∧ (valW ws).log2 + 1 ≤ 1024, ?_, ?_⟩
  · intro B b f W hbi hbf hf hsz
    obtain ⟨hw, ht⟩ := hbi.words
    obtain ⟨h1, h2⟩ := blen_log ws ht hw h0
    refine (set_int B b f neg ws W hbi h0 hbf hf hsz).mono ?_
    rintro e w' ⟨rfl, h3, h4⟩
    exact ⟨rfl, ⟨h3, h2, by omega⟩, h4⟩
  · rintro f W ⟨h1, h2, h3⟩
    have hlt : f < W.heap.size := by
      obtain ⟨_, _, _, _, _, _, _, hf, _⟩ := h1
      exact hf.lt
    refine (float_64 f (valW ws) neg W h1 h2 h3).mono ?_
    rintro e w' ⟨acc, rfl, hb⟩
    exact ⟨acc, rfl, hb.mono (by omega)⟩
theorem fin_whole (an : Bool) (a : Option Addr) (len cap : Nat) (zs : List Int) (w : World) (h : IsRow .u8 w a len cap zs) :
    Calls Try.prog 3 #[.bool an, .slice a len cap] w fun e w' => e = .returned (.bool true) ∧ Below w.heap.size w w' :=
  fin_law (fun neg ws h0 hb => big_float neg ws h0 hb) an a len cap zs w h
end Go.Proofs.Ytndeolcamgnmdaa
