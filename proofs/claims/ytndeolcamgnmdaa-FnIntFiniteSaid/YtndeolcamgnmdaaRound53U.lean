/- Rounding to 53 bits: rounded up, one word. -/
import Derived.Test.YtndeolcamgnmdaaRound53
namespace Go.Proofs.Ytndeolcamgnmdaa
open Go.RowKit
set_option maxRecDepth 20000 in
set_option maxHeartbeats 4000000 in
theorem r53_1U (B f gz c e T : Nat) (acc : Int) (neg : Bool) (w : World) (hf : FlB w f 53 acc 1 neg (.slice (some ⟨gz, 0, none⟩) 1 c) e) (hm : OW w B (.slice (some ⟨gz, 0, none⟩) 1 c) [T]) (hne : f ≠ gz) (he : e < 100000) (hrb : T / 2 ^ 10 % 2 = 1) (hsb : stick [T] 0 10 = 1) :
    Calls Try.prog 78 #[.pointer (some ⟨f, 0, none⟩), .int .u64 0] w (Round53Post B f gz c neg e (T / 2048 + 1) w) := by
  obtain ⟨c0, c1, c2, c3, c4, c5, c6, fz⟩ := blk7 hf
  rw [show ((53 : Nat) : Int) = 53 from rfl] at c0
  rw [show ((1 : Nat) : Int) = 1 from rfl] at c3
  have HF := Lib.hid hf
  have HM := Lib.hid hm
  have hgz : gz ≠ f := fun h => hne h.symm
  have HT64 : Hid (T < W64) := hm.2 T (by simp)
  have hm2 := hm.keep ((Only.refl (fun x => x = f) w).setCell (p := ⟨f, 2, none⟩) (.inl rfl) (.int .i8 0)) hgz
  have HBIT := Lib.hid (nat_bit B gz c 1 0 10 [T] _ hm2 (by simp) (by omega) (by omega))
  have HST := Lib.hid (nat_sticky B gz c 1 0 10 [T] _ hm2 (by simp) (by omega) (by omega))
  simp only [List.getElem_cons_zero] at HBIT
  rw [hrb, show ((64 * 0 + 10 : Nat) : Int) = 10 from rfl, show ((1 : Nat) : Int) = 1 from rfl] at HBIT
  rw [hsb, show ((64 * 0 + 10 : Nat) : Int) = 10 from rfl, show ((1 : Nat) : Int) = 1 from rfl] at HST
  clear hf hm hm2 hrb hsb
  have h11 : bits .and .u64 1 1 = 1 := by decide
  have h01 : bits .and .u64 0 1 = 0 := by decide
  have o00 : bits .or .u64 0 0 = 0 := by decide
  have o01 : bits .or .u64 0 1 = 1 := by decide
  have o10 : bits .or .u64 1 0 = 1 := by decide
  have o11 : bits .or .u64 1 1 = 1 := by decide
  have hs11 : IntKind.u64.wrap ((2 : Int) ^ 11) = 2048 := by decide
  go_enter Try.func78, Try.ntmps78
  go_wp2_with fail
  refine HBIT.out.mono ?_
  rintro en w' ⟨rfl, rfl⟩
  go_wp2_with fail
  refine HST.out.mono ?_
  rintro en w' ⟨rfl, rfl⟩
  go_upto_region 14 with fail
  have hb0 : FlB (w.setCell ⟨f, 2, none⟩ (.int .i8 0)) f 53 0 1 neg (.slice (some ⟨gz, 0, none⟩) 1 c) e := by simpa [FlB] using HF.out.put 2 (.int .i8 0)
  have hO0 : Only (· = f) w (w.setCell ⟨f, 2, none⟩ (.int .i8 0)) := (Only.refl (fun x => x = f) w).setCell (p := ⟨f, 2, none⟩) (.inl rfl) _
  obtain ⟨W0, hW0⟩ : ∃ W0, W0 = w.setCell ⟨f, 2, none⟩ (.int .i8 0) := ⟨_, rfl⟩
  rw [← hW0] at hb0 hO0 ⊢
  have H0 := Lib.hid (HM.out.keep hO0 hgz)
  have HB0 := Lib.hid hb0
  have HO0 := Lib.hid hO0
  clear hb0 hO0 hW0 c0 c1 c2 c3 c4 c5 c6 fz
  have hb2 := HB0.out
  have h3 := H0.out
  have hO2 : Only (fun k => k = f ∨ k = gz) w W0 := HO0.out.mono (fun k _ h => .inl h)
  obtain ⟨W, hW⟩ : ∃ W, W = W0 := ⟨_, rfl⟩
  rw [← hW] at hb2 h3 hO2 ⊢
  clear hW
  obtain ⟨d0, d1, d2, d3, d4, d5, d6, dz⟩ := blk7 hb2
  rw [show ((53 : Nat) : Int) = 53 from rfl] at d0
  have z0 := h3.cell 0 (by simp)
  simp only [List.getElem_cons_zero] at z0
  have zf := h3.free 0
  have HB2 := Lib.hid hb2
  have H3 := Lib.hid h3
  have HO2 := Lib.hid hO2
  clear hb2 h3 hO2
  go_wp2_with fail
  refine (make_acc _ _).mono ?_
  rintro en w' ⟨⟨acc', rfl⟩, rfl⟩
  go_wp2_with fail
  have hb3 : FlB (W.setCell ⟨f, 2, none⟩ (.int .i8 acc')) f 53 acc' 1 neg (.slice (some ⟨gz, 0, none⟩) 1 c) e := by simpa [FlB] using HB2.out.put 2 (.int .i8 acc')
  have h4 := H3.out.keep ((Only.refl (fun x => x = f) W).setCell (p := ⟨f, 2, none⟩) (.inl rfl) (.int .i8 acc')) hgz
  have hO3 := HO2.out.setCell (p := ⟨f, 2, none⟩) (.inl (.inl rfl)) (.int .i8 acc')
  obtain ⟨W3, hW3⟩ : ∃ W3, W3 = W.setCell ⟨f, 2, none⟩ (.int .i8 acc') := ⟨_, rfl⟩
  rw [← hW3] at hb3 h4 hO3 ⊢
  clear hW3 d0 d1 d2 d3 d4 d5 d6 dz z0 zf
  obtain ⟨d0, d1, d2, d3, d4, d5, d6, dz⟩ := blk7 hb3
  have HB3 := Lib.hid hb3
  have H4 := Lib.hid h4
  have HO3 := Lib.hid hO3
  clear hb3 h4 hO3
  have HA := Lib.hid (fun W' (h : OW W' B (.slice (some ⟨gz, 0, none⟩) 1 c) [T]) => add_one B gz c T 2048 W' h HT64.out (by unfold W64; omega))
  obtain ⟨cc, hcc⟩ : ∃ cc, cc = (T + 2048) / W64 := ⟨_, rfl⟩
  obtain ⟨rr, hrr⟩ : ∃ rr, rr = (T + 2048) % W64 := ⟨_, rfl⟩
  rw [← hcc, ← hrr, show ((2048 : Nat) : Int) = 2048 from rfl] at HA
  have hrr64 : rr < W64 := by rw [hrr]; exact Nat.mod_lt _ W64_pos
  have hcc2 := carry_two T cc rr HT64.out hcc hrr
  have HR64 := Lib.hid hrr64
  clear hcc hrr hrr64
  rcases hcc2 with ⟨rfl, hrr⟩ | ⟨rfl, hrr⟩
  · rw [show ((0 : Nat) : Int) = 0 from rfl] at HA
    have HRR := Lib.hid hrr
    clear hrr
    go_region_with ((go_at_call 84; refine (HA.out W3.drew (H4.out.hp rfl)).mono ?_; rintro en w4 ⟨rfl, h5, hO4⟩; have H5 := Lib.hid h5; have HO4 := Lib.hid hO4; clear h5 hO4))
    all_goals
      have hb5 : FlB w4 f 53 acc' 1 neg (.slice (some ⟨gz, 0, none⟩) 1 c) e := (HB3.out.drew).only HO4.out hne
      clear d0 d1 d2 d3 d4 d5 d6 dz
      obtain ⟨d0, d1, d2, d3, d4, d5, d6, dz⟩ := blk7 hb5
      have z0 := H5.out.cell 0 (by simp)
      simp only [List.getElem_cons_zero] at z0
      have zf := H5.out.free 0
      have HB5 := Lib.hid hb5
      clear hb5
      go_wp2
      go_end0
      have HV := Lib.hid (clr_2047 rr HR64.out)
      have HT3 := HT64.out
      have hr1 := HRR.out
      have hr2 := HR64.out
      have h6 := H5.out.store 0 (rr - rr % 2048) (by omega)
      rw [← HV.out] at h6
      refine ⟨rfl, acc', ?_, ?_, ?_⟩
      · have h7 := HB5.out.far (p := ⟨gz, 0, none⟩) hne (.int .u64 (bits .andNot .u64 (rr : Int) 2047))
        rw [show (T / 2048 + 1) / 9007199254740992 = 0 by unfold W64 at hr2; omega, Nat.add_zero]
        exact h7
      · rw [if_neg (by unfold W64 at hr2; omega), show 2048 * (T / 2048 + 1) = rr - rr % 2048 by omega]
        simpa using h6
      · exact (((HO3.out.drew).trans (HO4.out.mono (fun k _ h => .inr h))).setCell (p := ⟨gz, 0, none⟩) (.inl (.inr rfl)) _)
  · rw [show ((1 : Nat) : Int) = 1 from rfl] at HA
    have HRR := Lib.hid hrr
    have hrs : rr < 2048 := by have h8 := HT64.out; unfold W64 at h8 hrr; omega
    clear hrr
    go_region_with ((go_at_call 84; refine (HA.out W3.drew (H4.out.hp rfl)).mono ?_; rintro en w4 ⟨rfl, h5, hO4⟩; have H5 := Lib.hid h5; have HO4 := Lib.hid hO4; clear h5 hO4))
    all_goals
      have hb5 : FlB w4 f 53 acc' 1 neg (.slice (some ⟨gz, 0, none⟩) 1 c) e := (HB3.out.drew).only HO4.out hne
      clear d0 d1 d2 d3 d4 d5 d6 dz
      obtain ⟨d0, d1, d2, d3, d4, d5, d6, dz⟩ := blk7 hb5
      have HB5 := Lib.hid hb5
      clear hb5
      have he1 : decide ((2147483647 : Int) ≤ (e : Int)) = false := by simp; omega
      obtain ⟨e', he'⟩ : ∃ e' : Nat, (e : Int) + 1 = (e' : Int) := ⟨e + 1, by omega⟩
      have hwe : IntKind.i32.wrap (e' : Int) = (e' : Int) := by rw [IntKind.wrap_i32]; omega
      go_upto_region 37 with fail
      have hb6 : FlB (w4.setCell ⟨f, 6, none⟩ (.int .i32 (e' : Int))) f 53 acc' 1 neg (.slice (some ⟨gz, 0, none⟩) 1 c) e' := by simpa [FlB] using HB5.out.put 6 (.int .i32 (e' : Int))
      have h6 := H5.out.keep ((Only.refl (fun x => x = f) w4).setCell (p := ⟨f, 6, none⟩) (.inl rfl) (.int .i32 (e' : Int))) hgz
      have hO6 := (((HO3.out.drew).trans (HO4.out.mono (fun k _ h => .inr h))).setCell (p := ⟨f, 6, none⟩) (.inl (.inl rfl)) (.int .i32 (e' : Int)))
      obtain ⟨W6, hW6⟩ : ∃ W6, W6 = w4.setCell ⟨f, 6, none⟩ (.int .i32 (e' : Int)) := ⟨_, rfl⟩
      rw [← hW6] at hb6 h6 hO6 ⊢
      clear hW6 d0 d1 d2 d3 d4 d5 d6 dz
      obtain ⟨d0, d1, d2, d3, d4, d5, d6, dz⟩ := blk7 hb6
      have HB6 := Lib.hid hb6
      have H6 := Lib.hid h6
      have HO6 := Lib.hid hO6
      clear hb6 h6 hO6
      have HRS := Lib.hid (fun W' (h : OW W' B (.slice (some ⟨gz, 0, none⟩) 1 c) [rr]) => rsh_one B gz c rr W' h HR64.out)
      go_region_with ((go_at_call 85; refine (HRS.out W6.drew (H6.out.hp rfl)).mono ?_; rintro en w7 ⟨⟨v7, rfl⟩, h7, hO7⟩; have H7 := Lib.hid h7; have HO7 := Lib.hid hO7; clear h7 hO7))
    all_goals
      have hb8 : FlB w7 f 53 acc' 1 neg (.slice (some ⟨gz, 0, none⟩) 1 c) e' := (HB6.out.drew).only HO7.out hne
      clear d0 d1 d2 d3 d4 d5 d6 dz
      obtain ⟨d0, d1, d2, d3, d4, d5, d6, dz⟩ := blk7 hb8
      obtain ⟨hf2, hhf⟩ : ∃ hf2, hf2 = rr / 2 := ⟨_, rfl⟩
      have h9 := H7.out
      rw [← hhf] at h9
      have z0 := h9.cell 0 (by simp)
      simp only [List.getElem_cons_zero] at z0
      have zf := h9.free 0
      have hor : bits .or .u64 (hf2 : Int) 9223372036854775808 = ((9223372036854775808 + hf2 : Nat) : Int) := or_msb hf2 (by omega)
      have H9 := Lib.hid h9
      have HB8 := Lib.hid hb8
      have HE := Lib.hid he'
      have hw10 : IntKind.u32.wrap 0 = 0 := by decide
      have hh2 : hf2 < 2048 := by omega
      clear hb8 he' h9 hhf
      obtain ⟨y, hy⟩ : ∃ y, y = 9223372036854775808 + hf2 := ⟨_, rfl⟩
      rw [← hy] at hor
      have HY := Lib.hid hy
      clear hy
      go_wp2
      go_end0
      have hy64 : y < W64 := by rw [HY.out]; unfold W64; omega
      have HV := Lib.hid (clr_2047 y hy64)
      rw [show y - y % 2048 = 9223372036854775808 by have := HY.out; omega] at HV
      have hr1 := HRR.out
      have hKK : T / 2048 + 1 = 9007199254740992 := by have h8 := HT64.out; unfold W64 at h8 hr1; omega
      have h10 := (H9.out.store 0 y hy64).store 0 9223372036854775808 (by unfold W64; omega)
      rw [← HV.out] at h10
      refine ⟨rfl, acc', ?_, ?_, ?_⟩
      · have h11 := (HB8.out.far (p := ⟨gz, 0, none⟩) hne (.int .u64 (y : Int))).far (p := ⟨gz, 0, none⟩) hne (.int .u64 (bits .andNot .u64 (y : Int) 2047))
        rw [hKK, Nat.div_self (by omega), show e + 1 = e' by have := HE.out; omega]
        exact h11
      · rw [if_pos hKK]
        simpa using h10
      · exact ((((HO6.out.drew).trans (HO7.out.mono (fun k _ h => .inr h))).setCell (p := ⟨gz, 0, none⟩) (.inl (.inr rfl)) _).setCell (p := ⟨gz, 0, none⟩) (.inl (.inr rfl)) _)
set_option maxRecDepth 20000 in
set_option maxHeartbeats 4000000 in
theorem r53_1V (B f gz c e T : Nat) (acc : Int) (neg : Bool) (w : World) (hf : FlB w f 53 acc 1 neg (.slice (some ⟨gz, 0, none⟩) 1 c) e) (hm : OW w B (.slice (some ⟨gz, 0, none⟩) 1 c) [T]) (hne : f ≠ gz) (he : e < 100000) (hrb : T / 2 ^ 10 % 2 = 1) (hsb : stick [T] 0 10 = 0) (hlb : bits .and .u64 (T : Int) 2048 = 2048) :
    Calls Try.prog 78 #[.pointer (some ⟨f, 0, none⟩), .int .u64 0] w (Round53Post B f gz c neg e (T / 2048 + 1) w) := by
  obtain ⟨c0, c1, c2, c3, c4, c5, c6, fz⟩ := blk7 hf
  rw [show ((53 : Nat) : Int) = 53 from rfl] at c0
  rw [show ((1 : Nat) : Int) = 1 from rfl] at c3
  have HF := Lib.hid hf
  have HM := Lib.hid hm
  have hgz : gz ≠ f := fun h => hne h.symm
  have HT64 : Hid (T < W64) := hm.2 T (by simp)
  have hm2 := hm.keep ((Only.refl (fun x => x = f) w).setCell (p := ⟨f, 2, none⟩) (.inl rfl) (.int .i8 0)) hgz
  have HBIT := Lib.hid (nat_bit B gz c 1 0 10 [T] _ hm2 (by simp) (by omega) (by omega))
  have HST := Lib.hid (nat_sticky B gz c 1 0 10 [T] _ hm2 (by simp) (by omega) (by omega))
  simp only [List.getElem_cons_zero] at HBIT
  rw [hrb, show ((64 * 0 + 10 : Nat) : Int) = 10 from rfl, show ((1 : Nat) : Int) = 1 from rfl] at HBIT
  rw [hsb, show ((64 * 0 + 10 : Nat) : Int) = 10 from rfl, show ((0 : Nat) : Int) = 0 from rfl] at HST
  clear hf hm hm2 hrb hsb
  have h11 : bits .and .u64 1 1 = 1 := by decide
  have h01 : bits .and .u64 0 1 = 0 := by decide
  have o00 : bits .or .u64 0 0 = 0 := by decide
  have o01 : bits .or .u64 0 1 = 1 := by decide
  have o10 : bits .or .u64 1 0 = 1 := by decide
  have o11 : bits .or .u64 1 1 = 1 := by decide
  have hs11 : IntKind.u64.wrap ((2 : Int) ^ 11) = 2048 := by decide
  go_enter Try.func78, Try.ntmps78
  go_wp2_with fail
  refine HBIT.out.mono ?_
  rintro en w' ⟨rfl, rfl⟩
  go_wp2_with fail
  refine HST.out.mono ?_
  rintro en w' ⟨rfl, rfl⟩
  go_upto_region 14 with fail
  have hb0 : FlB (w.setCell ⟨f, 2, none⟩ (.int .i8 0)) f 53 0 1 neg (.slice (some ⟨gz, 0, none⟩) 1 c) e := by simpa [FlB] using HF.out.put 2 (.int .i8 0)
  have hO0 : Only (· = f) w (w.setCell ⟨f, 2, none⟩ (.int .i8 0)) := (Only.refl (fun x => x = f) w).setCell (p := ⟨f, 2, none⟩) (.inl rfl) _
  obtain ⟨W0, hW0⟩ : ∃ W0, W0 = w.setCell ⟨f, 2, none⟩ (.int .i8 0) := ⟨_, rfl⟩
  rw [← hW0] at hb0 hO0 ⊢
  have H0 := Lib.hid (HM.out.keep hO0 hgz)
  have HB0 := Lib.hid hb0
  have HO0 := Lib.hid hO0
  clear hb0 hO0 hW0 c0 c1 c2 c3 c4 c5 c6 fz
  have hb2 := HB0.out
  have h3 := H0.out
  have hO2 : Only (fun k => k = f ∨ k = gz) w W0 := HO0.out.mono (fun k _ h => .inl h)
  obtain ⟨W, hW⟩ : ∃ W, W = W0 := ⟨_, rfl⟩
  rw [← hW] at hb2 h3 hO2 ⊢
  clear hW
  obtain ⟨d0, d1, d2, d3, d4, d5, d6, dz⟩ := blk7 hb2
  rw [show ((53 : Nat) : Int) = 53 from rfl] at d0
  have z0 := h3.cell 0 (by simp)
  simp only [List.getElem_cons_zero] at z0
  have zf := h3.free 0
  have HB2 := Lib.hid hb2
  have H3 := Lib.hid h3
  have HO2 := Lib.hid hO2
  clear hb2 h3 hO2
  go_wp2_with fail
  refine (make_acc _ _).mono ?_
  rintro en w' ⟨⟨acc', rfl⟩, rfl⟩
  go_wp2_with fail
  have hb3 : FlB (W.setCell ⟨f, 2, none⟩ (.int .i8 acc')) f 53 acc' 1 neg (.slice (some ⟨gz, 0, none⟩) 1 c) e := by simpa [FlB] using HB2.out.put 2 (.int .i8 acc')
  have h4 := H3.out.keep ((Only.refl (fun x => x = f) W).setCell (p := ⟨f, 2, none⟩) (.inl rfl) (.int .i8 acc')) hgz
  have hO3 := HO2.out.setCell (p := ⟨f, 2, none⟩) (.inl (.inl rfl)) (.int .i8 acc')
  obtain ⟨W3, hW3⟩ : ∃ W3, W3 = W.setCell ⟨f, 2, none⟩ (.int .i8 acc') := ⟨_, rfl⟩
  rw [← hW3] at hb3 h4 hO3 ⊢
  clear hW3 d0 d1 d2 d3 d4 d5 d6 dz z0 zf
  obtain ⟨d0, d1, d2, d3, d4, d5, d6, dz⟩ := blk7 hb3
  have HB3 := Lib.hid hb3
  have H4 := Lib.hid h4
  have HO3 := Lib.hid hO3
  clear hb3 h4 hO3
  have HA := Lib.hid (fun W' (h : OW W' B (.slice (some ⟨gz, 0, none⟩) 1 c) [T]) => add_one B gz c T 2048 W' h HT64.out (by unfold W64; omega))
  obtain ⟨cc, hcc⟩ : ∃ cc, cc = (T + 2048) / W64 := ⟨_, rfl⟩
  obtain ⟨rr, hrr⟩ : ∃ rr, rr = (T + 2048) % W64 := ⟨_, rfl⟩
  rw [← hcc, ← hrr, show ((2048 : Nat) : Int) = 2048 from rfl] at HA
  have hrr64 : rr < W64 := by rw [hrr]; exact Nat.mod_lt _ W64_pos
  have hcc2 := carry_two T cc rr HT64.out hcc hrr
  have HR64 := Lib.hid hrr64
  clear hcc hrr hrr64
  rcases hcc2 with ⟨rfl, hrr⟩ | ⟨rfl, hrr⟩
  · rw [show ((0 : Nat) : Int) = 0 from rfl] at HA
    have HRR := Lib.hid hrr
    clear hrr
    go_region_with ((go_at_call 84; refine (HA.out W3.drew (H4.out.hp rfl)).mono ?_; rintro en w4 ⟨rfl, h5, hO4⟩; have H5 := Lib.hid h5; have HO4 := Lib.hid hO4; clear h5 hO4))
    all_goals
      have hb5 : FlB w4 f 53 acc' 1 neg (.slice (some ⟨gz, 0, none⟩) 1 c) e := (HB3.out.drew).only HO4.out hne
      clear d0 d1 d2 d3 d4 d5 d6 dz
      obtain ⟨d0, d1, d2, d3, d4, d5, d6, dz⟩ := blk7 hb5
      have z0 := H5.out.cell 0 (by simp)
      simp only [List.getElem_cons_zero] at z0
      have zf := H5.out.free 0
      have HB5 := Lib.hid hb5
      clear hb5
      go_wp2
      go_end0
      have HV := Lib.hid (clr_2047 rr HR64.out)
      have HT3 := HT64.out
      have hr1 := HRR.out
      have hr2 := HR64.out
      have h6 := H5.out.store 0 (rr - rr % 2048) (by omega)
      rw [← HV.out] at h6
      refine ⟨rfl, acc', ?_, ?_, ?_⟩
      · have h7 := HB5.out.far (p := ⟨gz, 0, none⟩) hne (.int .u64 (bits .andNot .u64 (rr : Int) 2047))
        rw [show (T / 2048 + 1) / 9007199254740992 = 0 by unfold W64 at hr2; omega, Nat.add_zero]
        exact h7
      · rw [if_neg (by unfold W64 at hr2; omega), show 2048 * (T / 2048 + 1) = rr - rr % 2048 by omega]
        simpa using h6
      · exact (((HO3.out.drew).trans (HO4.out.mono (fun k _ h => .inr h))).setCell (p := ⟨gz, 0, none⟩) (.inl (.inr rfl)) _)
  · rw [show ((1 : Nat) : Int) = 1 from rfl] at HA
    have HRR := Lib.hid hrr
    have hrs : rr < 2048 := by have h8 := HT64.out; unfold W64 at h8 hrr; omega
    clear hrr
    go_region_with ((go_at_call 84; refine (HA.out W3.drew (H4.out.hp rfl)).mono ?_; rintro en w4 ⟨rfl, h5, hO4⟩; have H5 := Lib.hid h5; have HO4 := Lib.hid hO4; clear h5 hO4))
    all_goals
      have hb5 : FlB w4 f 53 acc' 1 neg (.slice (some ⟨gz, 0, none⟩) 1 c) e := (HB3.out.drew).only HO4.out hne
      clear d0 d1 d2 d3 d4 d5 d6 dz
      obtain ⟨d0, d1, d2, d3, d4, d5, d6, dz⟩ := blk7 hb5
      have HB5 := Lib.hid hb5
      clear hb5
      have he1 : decide ((2147483647 : Int) ≤ (e : Int)) = false := by simp; omega
      obtain ⟨e', he'⟩ : ∃ e' : Nat, (e : Int) + 1 = (e' : Int) := ⟨e + 1, by omega⟩
      have hwe : IntKind.i32.wrap (e' : Int) = (e' : Int) := by rw [IntKind.wrap_i32]; omega
      go_upto_region 37 with fail
      have hb6 : FlB (w4.setCell ⟨f, 6, none⟩ (.int .i32 (e' : Int))) f 53 acc' 1 neg (.slice (some ⟨gz, 0, none⟩) 1 c) e' := by simpa [FlB] using HB5.out.put 6 (.int .i32 (e' : Int))
      have h6 := H5.out.keep ((Only.refl (fun x => x = f) w4).setCell (p := ⟨f, 6, none⟩) (.inl rfl) (.int .i32 (e' : Int))) hgz
      have hO6 := (((HO3.out.drew).trans (HO4.out.mono (fun k _ h => .inr h))).setCell (p := ⟨f, 6, none⟩) (.inl (.inl rfl)) (.int .i32 (e' : Int)))
      obtain ⟨W6, hW6⟩ : ∃ W6, W6 = w4.setCell ⟨f, 6, none⟩ (.int .i32 (e' : Int)) := ⟨_, rfl⟩
      rw [← hW6] at hb6 h6 hO6 ⊢
      clear hW6 d0 d1 d2 d3 d4 d5 d6 dz
      obtain ⟨d0, d1, d2, d3, d4, d5, d6, dz⟩ := blk7 hb6
      have HB6 := Lib.hid hb6
      have H6 := Lib.hid h6
      have HO6 := Lib.hid hO6
      clear hb6 h6 hO6
      have HRS := Lib.hid (fun W' (h : OW W' B (.slice (some ⟨gz, 0, none⟩) 1 c) [rr]) => rsh_one B gz c rr W' h HR64.out)
      go_region_with ((go_at_call 85; refine (HRS.out W6.drew (H6.out.hp rfl)).mono ?_; rintro en w7 ⟨⟨v7, rfl⟩, h7, hO7⟩; have H7 := Lib.hid h7; have HO7 := Lib.hid hO7; clear h7 hO7))
    all_goals
      have hb8 : FlB w7 f 53 acc' 1 neg (.slice (some ⟨gz, 0, none⟩) 1 c) e' := (HB6.out.drew).only HO7.out hne
      clear d0 d1 d2 d3 d4 d5 d6 dz
      obtain ⟨d0, d1, d2, d3, d4, d5, d6, dz⟩ := blk7 hb8
      obtain ⟨hf2, hhf⟩ : ∃ hf2, hf2 = rr / 2 := ⟨_, rfl⟩
      have h9 := H7.out
      rw [← hhf] at h9
      have z0 := h9.cell 0 (by simp)
      simp only [List.getElem_cons_zero] at z0
      have zf := h9.free 0
      have hor : bits .or .u64 (hf2 : Int) 9223372036854775808 = ((9223372036854775808 + hf2 : Nat) : Int) := or_msb hf2 (by omega)
      have H9 := Lib.hid h9
      have HB8 := Lib.hid hb8
      have HE := Lib.hid he'
      have hw10 : IntKind.u32.wrap 0 = 0 := by decide
      have hh2 : hf2 < 2048 := by omega
      clear hb8 he' h9 hhf
      obtain ⟨y, hy⟩ : ∃ y, y = 9223372036854775808 + hf2 := ⟨_, rfl⟩
      rw [← hy] at hor
      have HY := Lib.hid hy
      clear hy
      go_wp2
      go_end0
      have hy64 : y < W64 := by rw [HY.out]; unfold W64; omega
      have HV := Lib.hid (clr_2047 y hy64)
      rw [show y - y % 2048 = 9223372036854775808 by have := HY.out; omega] at HV
      have hr1 := HRR.out
      have hKK : T / 2048 + 1 = 9007199254740992 := by have h8 := HT64.out; unfold W64 at h8 hr1; omega
      have h10 := (H9.out.store 0 y hy64).store 0 9223372036854775808 (by unfold W64; omega)
      rw [← HV.out] at h10
      refine ⟨rfl, acc', ?_, ?_, ?_⟩
      · have h11 := (HB8.out.far (p := ⟨gz, 0, none⟩) hne (.int .u64 (y : Int))).far (p := ⟨gz, 0, none⟩) hne (.int .u64 (bits .andNot .u64 (y : Int) 2047))
        rw [hKK, Nat.div_self (by omega), show e + 1 = e' by have := HE.out; omega]
        exact h11
      · rw [if_pos hKK]
        simpa using h10
      · exact ((((HO6.out.drew).trans (HO7.out.mono (fun k _ h => .inr h))).setCell (p := ⟨gz, 0, none⟩) (.inl (.inr rfl)) _).setCell (p := ⟨gz, 0, none⟩) (.inl (.inr rfl)) _)
end Go.Proofs.Ytndeolcamgnmdaa
