/- Rounding of a mantissa to 53 bits, to the nearest, of two that are as near the even one. -/
import Derived.Test.YtndeolcamgnmdaaOneW
import Derived.Test.YtndeolcamgnmdaaBigBits
import Derived.Deep.DeepCutAuto
import Derived.Deep.RegionWith
namespace Go.Proofs.Ytndeolcamgnmdaa
open Go.RowKit
theorem nat_from32 (w : World) (g n c k : Nat) (hk : k ≤ n) (hc : n ≤ c) (hkc : k < c) :
    (Instr.slice 72 (.slice (some ⟨g, 0, none⟩) n c) (some (.int .u32 (k : Int))) none none).run Try.prog w = .ok (.slice (some ⟨g, k, none⟩) (n - k) (c - k)) w := by
  have e : ((n : Int) - (k : Int)) = ((n - k : Nat) : Int) := by omega
  have e2 : ¬ c = k := by omega
  simp [Instr.slice, run_underlying Try.underlying72, Instr.sliceBounds, Instr.sliceBound, asIntOf, hk, Try.sizeOf106, Addr.add_lit, e2]
theorem nat_one32 (w : World) (g n c : Nat) (hc : 1 ≤ c) :
    (Instr.slice 72 (.slice (some ⟨g, 0, none⟩) n c) none (some (.int .u32 1)) none).run Try.prog w = .ok (.slice (some ⟨g, 0, none⟩) 1 c) w := by
  have e : (1 : Int) ≤ (c : Int) := by omega
  have e2 : ¬ c = 0 := by omega
  simp [Instr.slice, run_underlying Try.underlying72, Instr.sliceBounds, Instr.sliceBound, asIntOf, e, Try.sizeOf106, Addr.add_lit, e2]
theorem only_row1 (w : World) (g : Nat) (cs : Array Value) : Only (· = g) w (w.setRow g cs) :=
  ⟨rfl, rfl, rfl, by simp [World.setRow], fun i hi hne => by
    have : ¬ g = i := fun e => hne e.symm
    simp [World.setRow, Array.getElem?_modify, this]⟩
theorem drop_take_one {α : Type} (l : List α) (L : Nat) : (l.drop 1).take L = (l.take (L + 1)).drop 1 := by
  cases l with
  | nil => simp
  | cons a r => simp
theorem wpList_copy_top {w : World} {ops : Array Oper} {rest : List Oper} {o : Oper} {a : Act} {Q : Exit → Act → World → Prop} (hgd : o.guard = none) (d s : Operand)
    (ho : o.op = .call { callee := .builtin .copy, args := #[d, s], argTypes := #[72, 72] }) (B gz m c k sn sc : Nat) (zs : List Nat) (hd : a.eval d = .slice (some ⟨gz, 0, none⟩) m c) (hs : a.eval s = .slice (some ⟨gz, k, none⟩) sn sc) (hsn : sn = 1)
    (hz : OW w B (.slice (some ⟨gz, 0, none⟩) m c) zs) (hk : k < zs.length)
    (h : ∀ w', OW w' B (.slice (some ⟨gz, 0, none⟩) m c) ((zs[k]'hk) :: zs.drop 1) → Only (· = gz) w w' → wpList Try.prog ops Q rest (a.put o.dst (goInt 1)) w') : wpList Try.prog ops Q (o :: rest) a w := by
  subst hsn
  have hsz : (Try.prog.info? 106).map (·.size) = some 1 := by kernel_rfl
  have hml := hz.len
  have hcell := hz.cell k hk
  rcases hz.1.2 with ⟨hv, hn⟩ | ⟨g, cap, cur, hv, hb, hh, hc1, hc2, hcs, htk⟩
  · simp at hv
  · injection hv with e1 e2 e3
    injection e1 with e1
    injection e1 with e1
    subst e1 e3
    have hcl : cur.toList.length = c := by rw [Array.length_toList, hcs]; simp
    refine wpList_copy_own hgd d s 72 72 ho 106 Try.underlying72 hsz gz 0 m c ⟨gz, k, none⟩ 1 sc hd hs cur 106 hh (wcells [zs[k]'hk]) (by rw [wcells_len]; exact (Nat.min_eq_left (show 1 ≤ m by omega)).symm) (fun j v hj => ?_) (by rw [wcells_len, hcs]; simp; omega) (wcells_one _) ?_
    · match j, hj with
      | 0, hj =>
        simp [wcells] at hj
        subst hj
        rw [Addr.add_lit]
        exact hcell
    · rw [wcells_len]
      refine h _ ⟨⟨by first | (simp; done) | (simp; omega), .inr ⟨gz, c, _, by first | (simp; done) | (simp; omega), hb, setRow_heap w gz _ _ 106 _ hh, by first | (simp; done) | (simp; omega), hc2, ?_, ?_⟩⟩, ?_⟩ (only_row1 w gz _)
      · simp
        omega
      · obtain ⟨L, hL⟩ : ∃ L, zs.length = L + 1 := ⟨zs.length - 1, by omega⟩
        have h1 : ((zs[k]'hk) :: zs.drop 1).length * 1 = L + 1 := by simp; omega
        rw [h1]
        rw [Nat.mul_one, hL] at htk
        show List.take (L + 1) (Value.int .u64 ((zs[k]'hk : Nat) : Int) :: List.drop 1 cur.toList) = _
        rw [List.take_succ_cons, drop_take_one, htk]
        simp [wcells]
      · intro x hx
        rcases List.mem_cons.1 hx with rfl | hx
        · exact hz.2 _ (List.getElem_mem _)
        · exact hz.2 x (List.mem_of_mem_drop hx)
theorem valW_zero : ∀ l : List Nat, valW l = 0 ↔ ∀ x ∈ l, x = 0
  | [] => by simp [valW]
  | a :: r => by
    have := valW_zero r
    have hp := W64_pos
    simp only [valW, List.mem_cons, forall_eq_or_imp]
    rw [← this]
    constructor
    · intro h
      refine ⟨by omega, ?_⟩
      rcases Nat.mul_eq_zero.1 (show W64 * valW r = 0 by omega) with h1 | h1
      · omega
      · exact h1
    · rintro ⟨h1, h2⟩
      rw [h1, h2]; simp
def Round53Post (B f gz c : Nat) (neg : Bool) (e K : Nat) (w : World) (en : Ending) (w' : World) : Prop :=
  en = .returned (.tuple #[]) ∧ ∃ acc : Int, FlB w' f 53 acc 1 neg (.slice (some ⟨gz, 0, none⟩) 1 c) (e + K / 9007199254740992) ∧ OW w' B (.slice (some ⟨gz, 0, none⟩) 1 c) [if K = 9007199254740992 then 9223372036854775808 else 2048 * K] ∧ Only (fun k => k = f ∨ k = gz) w w'
theorem stick_zero (ms : List Nat) (k T : Nat) (hk : k < ms.length) (hT : ms[k]'hk = T) : stick ms k 10 = if valW (ms.take k) = 0 ∧ T % 1024 = 0 then 0 else 1 := by
  unfold stick
  rw [List.getD_eq_getElem?_getD, List.getElem?_eq_getElem hk, Option.getD_some, hT]
  simp only [valW_zero]
theorem roundK_down (T low : Nat) (h : T / 1024 % 2 = 0 ∨ (T % 1024 = 0 ∧ low = 0 ∧ T / 2048 % 2 = 0)) : roundK T low = T / 2048 := by
  unfold roundK
  rw [if_neg, Nat.add_zero]
  rintro ⟨h1, h2 | h2 | h2⟩ <;> omega
theorem roundK_up (T low : Nat) (h : T / 1024 % 2 = 1 ∧ (T % 1024 ≠ 0 ∨ low ≠ 0 ∨ T / 2048 % 2 = 1)) : roundK T low = T / 2048 + 1 := by
  unfold roundK
  rw [if_pos h]
theorem sb_none {T low : Nat} (h : 0 = if low = 0 ∧ T % 1024 = 0 then 0 else 1) (h3 : T / 2048 % 2 = 0) : T / 1024 % 2 = 0 ∨ (T % 1024 = 0 ∧ low = 0 ∧ T / 2048 % 2 = 0) := by
  split at h
  · rename_i h4; exact .inr ⟨h4.2, h4.1, h3⟩
  · omega
theorem sb_some {T low : Nat} (h : 1 = if low = 0 ∧ T % 1024 = 0 then 0 else 1) : T % 1024 ≠ 0 ∨ low ≠ 0 ∨ T / 2048 % 2 = 1 := by
  split at h
  · omega
  · rename_i h4
    by_cases h5 : low = 0
    · exact .inl (fun h6 => h4 ⟨h5, h6⟩)
    · exact .inr (.inl h5)
theorem and_lsb (T : Nat) (h : T < 18446744073709551616) : bits .and .u64 (T : Int) 2048 = ((2048 * (T / 2048 % 2) : Nat) : Int) := by
  have h1 := u64_and_nat T 2048 h (by omega)
  rw [show ((2048 : Nat) : Int) = 2048 from rfl] at h1
  rw [h1]
  congr 1
  have e : (2048 : Nat) = 2 ^ 11 := by decide
  apply Nat.eq_of_testBit_eq
  intro i
  rw [e, Nat.testBit_and, Nat.testBit_two_pow, Nat.mul_comm, Nat.testBit_mul_two_pow]
  by_cases hi : 11 = i
  · subst hi
    simp only [decide_true, Bool.and_true, Nat.le_refl, Bool.true_and, Nat.sub_self]
    rw [Nat.testBit_zero, Nat.testBit_eq_decide_div_mod_eq]
    simp
  · by_cases h2 : 11 ≤ i
    · have h3 : (T / 2 ^ 11 % 2).testBit (i - 11) = false := Nat.testBit_lt_two_pow (Nat.lt_of_lt_of_le (Nat.mod_lt _ (by decide)) (Nat.le_self_pow (by omega) 2))
      simp [hi, h3]
    · simp [hi, h2]
theorem and_lsb0 (T : Nat) (h : T < 18446744073709551616) (h2 : T / 2048 % 2 = 0) : bits .and .u64 (T : Int) 2048 = 0 := by
  rw [and_lsb T h, h2]; rfl
theorem and_lsb1 (T : Nat) (h : T < 18446744073709551616) (h2 : ¬ T / 2048 % 2 = 0) : bits .and .u64 (T : Int) 2048 = 2048 := by
  rw [and_lsb T h, show T / 2048 % 2 = 1 by omega]; rfl
theorem or_msb (y : Nat) (h : y < 2048) : bits .or .u64 (y : Int) 9223372036854775808 = ((9223372036854775808 + y : Nat) : Int) := by
  have h1 := u64_or_nat y 9223372036854775808 (by omega) (by omega)
  rw [show ((9223372036854775808 : Nat) : Int) = 9223372036854775808 from rfl] at h1
  rw [h1]
  congr 1
  rw [Nat.or_comm]
  have := or_disj 1 y 63 (by omega)
  simpa using this
theorem clr_2047 (T : Nat) (h : T < W64) : bits .andNot .u64 (T : Int) 2047 = ((T - T % 2048 : Nat) : Int) := by
  have h1 := clr_low T 11 h (by omega)
  rw [show ((2 ^ 11 : Nat) : Int) - 1 = 2047 from rfl, show IntKind.u64.wrap 2047 = 2047 by decide, show 2 ^ 11 = 2048 from rfl] at h1
  exact h1
theorem carry_two (T cc rr : Nat) (hT : T < W64) (hcc : cc = (T + 2048) / W64) (hrr : rr = (T + 2048) % W64) : (cc = 0 ∧ rr = T + 2048) ∨ (cc = 1 ∧ rr + W64 = T + 2048) := by
  have h8 := Nat.div_add_mod (T + 2048) W64
  rw [← hcc, ← hrr] at h8
  have h9 : cc < 2 := by rw [hcc]; exact (Nat.div_lt_iff_lt_mul W64_pos).2 (by unfold W64 at hT ⊢; omega)
  rcases (show cc = 0 ∨ cc = 1 by omega) with h10 | h10
  · rw [h10] at h8; left; exact ⟨h10, by omega⟩
  · rw [h10] at h8; right; exact ⟨h10, by omega⟩
/-! The walks. -/
set_option maxRecDepth 20000 in
set_option maxHeartbeats 4000000 in
theorem r53_1E (B f gz c e T : Nat) (acc : Int) (neg : Bool) (w : World) (hf : FlB w f 53 acc 1 neg (.slice (some ⟨gz, 0, none⟩) 1 c) e) (hm : OW w B (.slice (some ⟨gz, 0, none⟩) 1 c) [T]) (hne : f ≠ gz) (he : e < 100000) (hrb : T / 2 ^ 10 % 2 = 0) (hsb : stick [T] 0 10 = 0) :
    Calls Try.prog 78 #[.pointer (some ⟨f, 0, none⟩), .int .u64 0] w (Round53Post B f gz c neg e (T / 2048) w) := by
  obtain ⟨c0, c1, c2, c3, c4, c5, c6, fz⟩ := blk7 hf
  rw [show ((53 : Nat) : Int) = 53 from rfl] at c0
  rw [show ((1 : Nat) : Int) = 1 from rfl] at c3
  have HF := Lib.hid hf
  have HM := Lib.hid hm
  have hgz : gz ≠ f := fun h => hne h.symm
  have HT64 : Hid (T < W64) := hm.2 T (by simp)
  have hm2 := hm.keep ((Only.refl (fun x => x = f) w).setCell (p := ⟨f, 2, none⟩) (.inl rfl) (.int .i8 0)) hgz
  have HBIT := Lib.hid (nat_bit B gz c 1 0 10 [T] _ hm2 (by simp) (by omega) (by omega))
  have HST := Lib.hid (nat_sticky B gz c 1 0 10 [T] _ hm2 (by simp) (by omega) (by omega))
  simp only [List.getElem_cons_zero] at HBIT
  rw [hrb, show ((64 * 0 + 10 : Nat) : Int) = 10 from rfl, show ((0 : Nat) : Int) = 0 from rfl] at HBIT
  rw [hsb, show ((64 * 0 + 10 : Nat) : Int) = 10 from rfl, show ((0 : Nat) : Int) = 0 from rfl] at HST
  clear hf hm hm2 hrb hsb
  have h11 : bits .and .u64 1 1 = 1 := by decide
  have h01 : bits .and .u64 0 1 = 0 := by decide
  have o00 : bits .or .u64 0 0 = 0 := by decide
  have o01 : bits .or .u64 0 1 = 1 := by decide
  have o10 : bits .or .u64 1 0 = 1 := by decide
  have o11 : bits .or .u64 1 1 = 1 := by decide
  have hs11 : IntKind.u64.wrap ((2 : Int) ^ 11) = 2048 := by decide
  go_enter Try.func78, Try.ntmps78
  go_wp2_with fail
  refine HBIT.out.mono ?_
  rintro en w' ⟨rfl, rfl⟩
  go_wp2_with fail
  refine HST.out.mono ?_
  rintro en w' ⟨rfl, rfl⟩
  go_upto_region 14 with fail
  have hb0 : FlB (w.setCell ⟨f, 2, none⟩ (.int .i8 0)) f 53 0 1 neg (.slice (some ⟨gz, 0, none⟩) 1 c) e := by simpa [FlB] using HF.out.put 2 (.int .i8 0)
  have hO0 : Only (· = f) w (w.setCell ⟨f, 2, none⟩ (.int .i8 0)) := (Only.refl (fun x => x = f) w).setCell (p := ⟨f, 2, none⟩) (.inl rfl) _
  obtain ⟨W0, hW0⟩ : ∃ W0, W0 = w.setCell ⟨f, 2, none⟩ (.int .i8 0) := ⟨_, rfl⟩
  rw [← hW0] at hb0 hO0 ⊢
  have H0 := Lib.hid (HM.out.keep hO0 hgz)
  have HB0 := Lib.hid hb0
  have HO0 := Lib.hid hO0
  clear hb0 hO0 hW0 c0 c1 c2 c3 c4 c5 c6 fz
  have hb2 := HB0.out
  have h3 := H0.out
  have hO2 : Only (fun k => k = f ∨ k = gz) w W0 := HO0.out.mono (fun k _ h => .inl h)
  obtain ⟨W, hW⟩ : ∃ W, W = W0 := ⟨_, rfl⟩
  rw [← hW] at hb2 h3 hO2 ⊢
  clear hW
  obtain ⟨d0, d1, d2, d3, d4, d5, d6, dz⟩ := blk7 hb2
  rw [show ((53 : Nat) : Int) = 53 from rfl] at d0
  have z0 := h3.cell 0 (by simp)
  simp only [List.getElem_cons_zero] at z0
  have zf := h3.free 0
  have HB2 := Lib.hid hb2
  have H3 := Lib.hid h3
  have HO2 := Lib.hid hO2
  clear hb2 h3 hO2
  go_wp2
  go_end0
  have HV := Lib.hid (clr_2047 T HT64.out)
  have HT3 := HT64.out
  have h5 := (H3.out.keep (Only.refl (fun x => x = f) W) hgz).store 0 (T - T % 2048) (by omega)
  rw [← HV.out] at h5
  refine ⟨rfl, 0, ?_, ?_, ?_⟩
  · have h6 := (HB2.out).far (p := ⟨gz, 0, none⟩) hne (.int .u64 (bits .andNot .u64 (T : Int) 2047))
    rw [show T / 2048 / 9007199254740992 = 0 by unfold W64 at HT3; omega, Nat.add_zero]
    simpa [FlB] using h6
  · rw [if_neg (by unfold W64 at HT3; omega), show 2048 * (T / 2048) = T - T % 2048 by omega]
    simpa using h5
  · exact (HO2.out).setCell (p := ⟨gz, 0, none⟩) (.inl (.inr rfl)) _
set_option maxRecDepth 20000 in
set_option maxHeartbeats 4000000 in
theorem r53_1D (B f gz c e T : Nat) (acc : Int) (neg : Bool) (w : World) (hf : FlB w f 53 acc 1 neg (.slice (some ⟨gz, 0, none⟩) 1 c) e) (hm : OW w B (.slice (some ⟨gz, 0, none⟩) 1 c) [T]) (hne : f ≠ gz) (he : e < 100000) (hrb : T / 2 ^ 10 % 2 = 0) (hsb : stick [T] 0 10 = 1) :
    Calls Try.prog 78 #[.pointer (some ⟨f, 0, none⟩), .int .u64 0] w (Round53Post B f gz c neg e (T / 2048) w) := by
  obtain ⟨c0, c1, c2, c3, c4, c5, c6, fz⟩ := blk7 hf
  rw [show ((53 : Nat) : Int) = 53 from rfl] at c0
  rw [show ((1 : Nat) : Int) = 1 from rfl] at c3
  have HF := Lib.hid hf
  have HM := Lib.hid hm
  have hgz : gz ≠ f := fun h => hne h.symm
  have HT64 : Hid (T < W64) := hm.2 T (by simp)
  have hm2 := hm.keep ((Only.refl (fun x => x = f) w).setCell (p := ⟨f, 2, none⟩) (.inl rfl) (.int .i8 0)) hgz
  have HBIT := Lib.hid (nat_bit B gz c 1 0 10 [T] _ hm2 (by simp) (by omega) (by omega))
  have HST := Lib.hid (nat_sticky B gz c 1 0 10 [T] _ hm2 (by simp) (by omega) (by omega))
  simp only [List.getElem_cons_zero] at HBIT
  rw [hrb, show ((64 * 0 + 10 : Nat) : Int) = 10 from rfl, show ((0 : Nat) : Int) = 0 from rfl] at HBIT
  rw [hsb, show ((64 * 0 + 10 : Nat) : Int) = 10 from rfl, show ((1 : Nat) : Int) = 1 from rfl] at HST
  clear hf hm hm2 hrb hsb
  have h11 : bits .and .u64 1 1 = 1 := by decide
  have h01 : bits .and .u64 0 1 = 0 := by decide
  have o00 : bits .or .u64 0 0 = 0 := by decide
  have o01 : bits .or .u64 0 1 = 1 := by decide
  have o10 : bits .or .u64 1 0 = 1 := by decide
  have o11 : bits .or .u64 1 1 = 1 := by decide
  have hs11 : IntKind.u64.wrap ((2 : Int) ^ 11) = 2048 := by decide
  go_enter Try.func78, Try.ntmps78
  go_wp2_with fail
  refine HBIT.out.mono ?_
  rintro en w' ⟨rfl, rfl⟩
  go_wp2_with fail
  refine HST.out.mono ?_
  rintro en w' ⟨rfl, rfl⟩
  go_upto_region 14 with fail
  have hb0 : FlB (w.setCell ⟨f, 2, none⟩ (.int .i8 0)) f 53 0 1 neg (.slice (some ⟨gz, 0, none⟩) 1 c) e := by simpa [FlB] using HF.out.put 2 (.int .i8 0)
  have hO0 : Only (· = f) w (w.setCell ⟨f, 2, none⟩ (.int .i8 0)) := (Only.refl (fun x => x = f) w).setCell (p := ⟨f, 2, none⟩) (.inl rfl) _
  obtain ⟨W0, hW0⟩ : ∃ W0, W0 = w.setCell ⟨f, 2, none⟩ (.int .i8 0) := ⟨_, rfl⟩
  rw [← hW0] at hb0 hO0 ⊢
  have H0 := Lib.hid (HM.out.keep hO0 hgz)
  have HB0 := Lib.hid hb0
  have HO0 := Lib.hid hO0
  clear hb0 hO0 hW0 c0 c1 c2 c3 c4 c5 c6 fz
  have hb2 := HB0.out
  have h3 := H0.out
  have hO2 : Only (fun k => k = f ∨ k = gz) w W0 := HO0.out.mono (fun k _ h => .inl h)
  obtain ⟨W, hW⟩ : ∃ W, W = W0 := ⟨_, rfl⟩
  rw [← hW] at hb2 h3 hO2 ⊢
  clear hW
  obtain ⟨d0, d1, d2, d3, d4, d5, d6, dz⟩ := blk7 hb2
  rw [show ((53 : Nat) : Int) = 53 from rfl] at d0
  have z0 := h3.cell 0 (by simp)
  simp only [List.getElem_cons_zero] at z0
  have zf := h3.free 0
  have HB2 := Lib.hid hb2
  have H3 := Lib.hid h3
  have HO2 := Lib.hid hO2
  clear hb2 h3 hO2
  go_wp2_with fail
  refine (make_acc _ _).mono ?_
  rintro en w' ⟨⟨acc', rfl⟩, rfl⟩
  go_wp2
  go_end0
  have HV := Lib.hid (clr_2047 T HT64.out)
  have HT3 := HT64.out
  have h5 := (H3.out.keep ((Only.refl (fun x => x = f) W).setCell (p := ⟨f, 2, none⟩) (.inl rfl) (.int .i8 acc')) hgz).store 0 (T - T % 2048) (by omega)
  rw [← HV.out] at h5
  refine ⟨rfl, acc', ?_, ?_, ?_⟩
  · have h6 := (HB2.out.put 2 (.int .i8 acc')).far (p := ⟨gz, 0, none⟩) hne (.int .u64 (bits .andNot .u64 (T : Int) 2047))
    rw [show T / 2048 / 9007199254740992 = 0 by unfold W64 at HT3; omega, Nat.add_zero]
    simpa [FlB] using h6
  · rw [if_neg (by unfold W64 at HT3; omega), show 2048 * (T / 2048) = T - T % 2048 by omega]
    simpa using h5
  · exact (HO2.out.setCell (p := ⟨f, 2, none⟩) (.inl (.inl rfl)) _).setCell (p := ⟨gz, 0, none⟩) (.inl (.inr rfl)) _
set_option maxRecDepth 20000 in
set_option maxHeartbeats 4000000 in
theorem r53_1H (B f gz c e T : Nat) (acc : Int) (neg : Bool) (w : World) (hf : FlB w f 53 acc 1 neg (.slice (some ⟨gz, 0, none⟩) 1 c) e) (hm : OW w B (.slice (some ⟨gz, 0, none⟩) 1 c) [T]) (hne : f ≠ gz) (he : e < 100000) (hrb : T / 2 ^ 10 % 2 = 1) (hsb : stick [T] 0 10 = 0) (hlb : bits .and .u64 (T : Int) 2048 = 0) :
    Calls Try.prog 78 #[.pointer (some ⟨f, 0, none⟩), .int .u64 0] w (Round53Post B f gz c neg e (T / 2048) w) := by
  obtain ⟨c0, c1, c2, c3, c4, c5, c6, fz⟩ := blk7 hf
  rw [show ((53 : Nat) : Int) = 53 from rfl] at c0
  rw [show ((1 : Nat) : Int) = 1 from rfl] at c3
  have HF := Lib.hid hf
  have HM := Lib.hid hm
  have hgz : gz ≠ f := fun h => hne h.symm
  have HT64 : Hid (T < W64) := hm.2 T (by simp)
  have hm2 := hm.keep ((Only.refl (fun x => x = f) w).setCell (p := ⟨f, 2, none⟩) (.inl rfl) (.int .i8 0)) hgz
  have HBIT := Lib.hid (nat_bit B gz c 1 0 10 [T] _ hm2 (by simp) (by omega) (by omega))
  have HST := Lib.hid (nat_sticky B gz c 1 0 10 [T] _ hm2 (by simp) (by omega) (by omega))
  simp only [List.getElem_cons_zero] at HBIT
  rw [hrb, show ((64 * 0 + 10 : Nat) : Int) = 10 from rfl, show ((1 : Nat) : Int) = 1 from rfl] at HBIT
  rw [hsb, show ((64 * 0 + 10 : Nat) : Int) = 10 from rfl, show ((0 : Nat) : Int) = 0 from rfl] at HST
  clear hf hm hm2 hrb hsb
  have h11 : bits .and .u64 1 1 = 1 := by decide
  have h01 : bits .and .u64 0 1 = 0 := by decide
  have o00 : bits .or .u64 0 0 = 0 := by decide
  have o01 : bits .or .u64 0 1 = 1 := by decide
  have o10 : bits .or .u64 1 0 = 1 := by decide
  have o11 : bits .or .u64 1 1 = 1 := by decide
  have hs11 : IntKind.u64.wrap ((2 : Int) ^ 11) = 2048 := by decide
  go_enter Try.func78, Try.ntmps78
  go_wp2_with fail
  refine HBIT.out.mono ?_
  rintro en w' ⟨rfl, rfl⟩
  go_wp2_with fail
  refine HST.out.mono ?_
  rintro en w' ⟨rfl, rfl⟩
  go_upto_region 14 with fail
  have hb0 : FlB (w.setCell ⟨f, 2, none⟩ (.int .i8 0)) f 53 0 1 neg (.slice (some ⟨gz, 0, none⟩) 1 c) e := by simpa [FlB] using HF.out.put 2 (.int .i8 0)
  have hO0 : Only (· = f) w (w.setCell ⟨f, 2, none⟩ (.int .i8 0)) := (Only.refl (fun x => x = f) w).setCell (p := ⟨f, 2, none⟩) (.inl rfl) _
  obtain ⟨W0, hW0⟩ : ∃ W0, W0 = w.setCell ⟨f, 2, none⟩ (.int .i8 0) := ⟨_, rfl⟩
  rw [← hW0] at hb0 hO0 ⊢
  have H0 := Lib.hid (HM.out.keep hO0 hgz)
  have HB0 := Lib.hid hb0
  have HO0 := Lib.hid hO0
  clear hb0 hO0 hW0 c0 c1 c2 c3 c4 c5 c6 fz
  have hb2 := HB0.out
  have h3 := H0.out
  have hO2 : Only (fun k => k = f ∨ k = gz) w W0 := HO0.out.mono (fun k _ h => .inl h)
  obtain ⟨W, hW⟩ : ∃ W, W = W0 := ⟨_, rfl⟩
  rw [← hW] at hb2 h3 hO2 ⊢
  clear hW
  obtain ⟨d0, d1, d2, d3, d4, d5, d6, dz⟩ := blk7 hb2
  rw [show ((53 : Nat) : Int) = 53 from rfl] at d0
  have z0 := h3.cell 0 (by simp)
  simp only [List.getElem_cons_zero] at z0
  have zf := h3.free 0
  have HB2 := Lib.hid hb2
  have H3 := Lib.hid h3
  have HO2 := Lib.hid hO2
  clear hb2 h3 hO2
  go_wp2_with fail
  refine (make_acc _ _).mono ?_
  rintro en w' ⟨⟨acc', rfl⟩, rfl⟩
  go_wp2
  go_end0
  have HV := Lib.hid (clr_2047 T HT64.out)
  have HT3 := HT64.out
  have h5 := (H3.out.keep ((Only.refl (fun x => x = f) W).setCell (p := ⟨f, 2, none⟩) (.inl rfl) (.int .i8 acc')) hgz).store 0 (T - T % 2048) (by omega)
  rw [← HV.out] at h5
  refine ⟨rfl, acc', ?_, ?_, ?_⟩
  · have h6 := (HB2.out.put 2 (.int .i8 acc')).far (p := ⟨gz, 0, none⟩) hne (.int .u64 (bits .andNot .u64 (T : Int) 2047))
    rw [show T / 2048 / 9007199254740992 = 0 by unfold W64 at HT3; omega, Nat.add_zero]
    simpa [FlB] using h6
  · rw [if_neg (by unfold W64 at HT3; omega), show 2048 * (T / 2048) = T - T % 2048 by omega]
    simpa using h5
  · exact (HO2.out.setCell (p := ⟨f, 2, none⟩) (.inl (.inl rfl)) _).setCell (p := ⟨gz, 0, none⟩) (.inl (.inr rfl)) _
set_option maxRecDepth 20000 in
set_option maxHeartbeats 4000000 in
theorem r53_kE (B f gz m c e k T : Nat) (acc : Int) (neg : Bool) (ms : List Nat) (w : World) (hf : FlB w f 53 acc 1 neg (.slice (some ⟨gz, 0, none⟩) m c) e) (hm : OW w B (.slice (some ⟨gz, 0, none⟩) m c) ms) (hn : m ≤ 100000) (hne : f ≠ gz) (hmk : m = k + 1) (hk0 : k ≠ 0) (hk : k < ms.length) (hT : ms[k]'hk = T) (he : e < 100000) (hrb : T / 2 ^ 10 % 2 = 0) (hsb : stick ms k 10 = 0) :
    Calls Try.prog 78 #[.pointer (some ⟨f, 0, none⟩), .int .u64 0] w (Round53Post B f gz c neg e (T / 2048) w) := by
  obtain ⟨c0, c1, c2, c3, c4, c5, c6, fz⟩ := blk7 hf
  rw [show ((53 : Nat) : Int) = 53 from rfl] at c0
  have HF := Lib.hid hf
  have HM := Lib.hid hm
  have hml := hm.len
  have HT64 : Hid (T < W64) := by unfold Hid; rw [← hT]; exact hm.2 _ (List.getElem_mem _)
  have hw1 : IntKind.u32.wrap (m : Int) = (m : Int) := by rw [IntKind.wrap_u32]; omega
  obtain ⟨b, hbe⟩ : ∃ b : Nat, (m : Int) * 64 = (b : Int) := ⟨m * 64, by omega⟩
  have hw2 : IntKind.u32.wrap (b : Int) = (b : Int) := by rw [IntKind.wrap_u32]; omega
  have hd : decide ((b : Int) ≤ 53) = false := by simp; omega
  have hd2 : decide (b ≤ 53) = false := by simp; omega
  obtain ⟨b1, hb1⟩ : ∃ b1 : Nat, (b : Int) - 53 = (b1 : Int) := ⟨b - 53, by omega⟩
  obtain ⟨r, hr⟩ : ∃ r : Nat, (b1 : Int) - 1 = (r : Int) := ⟨b1 - 1, by omega⟩
  have hw3 : IntKind.u32.wrap (b1 : Int) = (b1 : Int) := by rw [IntKind.wrap_u32]; omega
  have hw4 : IntKind.u32.wrap (r : Int) = (r : Int) := by rw [IntKind.wrap_u32]; omega
  have hw5 : IntKind.u64.wrap (r : Int) = (r : Int) := wrap64_small _ (by omega) (by omega)
  have hr2 : r = 64 * k + 10 := by omega
  have hgz : gz ≠ f := fun h => hne h.symm
  have hm2 := hm.keep ((Only.refl (fun x => x = f) w).setCell (p := ⟨f, 2, none⟩) (.inl rfl) (.int .i8 0)) hgz
  have HBIT := Lib.hid (nat_bit B gz c m k 10 ms _ hm2 hk (by omega) hn)
  have HST := Lib.hid (nat_sticky B gz c m k 10 ms _ hm2 hk (by omega) hn)
  rw [hT, hrb, ← hr2, show ((0 : Nat) : Int) = 0 from rfl] at HBIT
  rw [hsb, ← hr2, show ((0 : Nat) : Int) = 0 from rfl] at HST
  have hmc : m ≤ c := by
    rcases hm.form with ⟨hv, _⟩ | ⟨_, _, hv, _, _, h1, _⟩
    · simp at hv
    · injection hv with _ _ h3
      omega
  have hsl1 := fun W => nat_one32 W gz m c (by omega)
  have HT := Lib.hid hT
  have hd3 : decide ((1 : Int) < (m : Int)) = true := by simp; omega
  have hd4 : decide (1 < m) = true := by simp; omega
  have hsl2 := fun W => nat_from32 W gz m c k (by omega) hmc (by omega)
  have hmk2 : (m : Int) - 1 = (k : Int) := by omega
  have hw6 : IntKind.u32.wrap (k : Int) = (k : Int) := by rw [IntKind.wrap_u32]; omega
  have HMK := Lib.hid hmk
  clear hf hm hm2 hrb hsb hT hml hr2 hmk hk0 hmc
  have h11 : bits .and .u64 1 1 = 1 := by decide
  have h01 : bits .and .u64 0 1 = 0 := by decide
  have o00 : bits .or .u64 0 0 = 0 := by decide
  have o01 : bits .or .u64 0 1 = 1 := by decide
  have o10 : bits .or .u64 1 0 = 1 := by decide
  have o11 : bits .or .u64 1 1 = 1 := by decide
  have hs11 : IntKind.u64.wrap ((2 : Int) ^ 11) = 2048 := by decide
  go_enter Try.func78, Try.ntmps78
  go_wp2_with fail
  refine HBIT.out.mono ?_
  rintro en w' ⟨rfl, rfl⟩
  go_wp2_with fail
  refine HST.out.mono ?_
  rintro en w' ⟨rfl, rfl⟩
  go_wp2_with fail
  have hb0 : FlB (w.setCell ⟨f, 2, none⟩ (.int .i8 0)) f 53 0 1 neg (.slice (some ⟨gz, 0, none⟩) m c) e := by simpa [FlB] using HF.out.put 2 (.int .i8 0)
  have hO0 : Only (· = f) w (w.setCell ⟨f, 2, none⟩ (.int .i8 0)) := (Only.refl (fun x => x = f) w).setCell (p := ⟨f, 2, none⟩) (.inl rfl) _
  obtain ⟨W0, hW0⟩ : ∃ W0, W0 = w.setCell ⟨f, 2, none⟩ (.int .i8 0) := ⟨_, rfl⟩
  rw [← hW0] at hb0 hO0 ⊢
  have H0 := Lib.hid (HM.out.keep hO0 hgz)
  have HB0 := Lib.hid hb0
  have HO0 := Lib.hid hO0
  clear hb0 hO0 hW0 c0 c1 c2 c3 c4 c5 c6 fz
  obtain ⟨d0, d1, d2, d3, d4, d5, d6, dz⟩ := blk7 HB0.out
  rw [show ((53 : Nat) : Int) = 53 from rfl] at d0
  go_still_tail 12, (by kernel_rfl)
  refine wpList_copy_top rfl (.tmp 82) (.tmp 90) rfl B gz m c k (m - k) (c - k) ms rfl rfl (by have := HMK.out; omega) (H0.out.hp rfl) hk ?_
  intro w1 h1 h2
  clear d0 d1 d2 d3 d4 d5 d6 dz
  have hb1 : FlB w1 f 53 0 1 neg (.slice (some ⟨gz, 0, none⟩) m c) e := (HB0.out.drew).only h2 hne
  obtain ⟨d0, d1, d2, d3, d4, d5, d6, dz⟩ := blk7 hb1
  have HB1 := Lib.hid hb1
  have H1 := Lib.hid h1
  have H2 := Lib.hid h2
  clear h1 h2 hb1
  go_upto_region 14 with fail
  clear d0 d1 d2 d3 d4 d5 d6 dz
  have hb2 : FlB (w1.setCell ⟨f, 5, none⟩ (.slice (some ⟨gz, 0, none⟩) 1 c)) f 53 0 1 neg (.slice (some ⟨gz, 0, none⟩) 1 c) e := by simpa [FlB] using HB1.out.put 5 (.slice (some ⟨gz, 0, none⟩) 1 c)
  have h3 : OW (w1.setCell ⟨f, 5, none⟩ (.slice (some ⟨gz, 0, none⟩) 1 c)) B (.slice (some ⟨gz, 0, none⟩) 1 c) [T] := by
    have h4 := (H1.out.take 1 (by simp)).keep ((Only.refl (fun x => x = f) w1).setCell (p := ⟨f, 5, none⟩) (.inl rfl) (.slice (some ⟨gz, 0, none⟩) 1 c)) hgz
    simpa [HT.out] using h4
  have hO2 : Only (fun k => k = f ∨ k = gz) w (w1.setCell ⟨f, 5, none⟩ (.slice (some ⟨gz, 0, none⟩) 1 c)) := ((((HO0.out.mono (fun k _ h => .inl h)).drew).trans (H2.out.mono (fun k _ h => .inr h)))).setCell (p := ⟨f, 5, none⟩) (.inl (.inl rfl)) _
  obtain ⟨W, hW⟩ : ∃ W, W = w1.setCell ⟨f, 5, none⟩ (.slice (some ⟨gz, 0, none⟩) 1 c) := ⟨_, rfl⟩
  rw [← hW] at hb2 h3 hO2 ⊢
  clear hW
  obtain ⟨d0, d1, d2, d3, d4, d5, d6, dz⟩ := blk7 hb2
  rw [show ((53 : Nat) : Int) = 53 from rfl] at d0
  have z0 := h3.cell 0 (by simp)
  simp only [List.getElem_cons_zero] at z0
  have zf := h3.free 0
  have HB2 := Lib.hid hb2
  have H3 := Lib.hid h3
  have HO2 := Lib.hid hO2
  clear hb2 h3 hO2
  go_wp2
  go_end0
  have HV := Lib.hid (clr_2047 T HT64.out)
  have HT3 := HT64.out
  have h5 := (H3.out.keep (Only.refl (fun x => x = f) W) hgz).store 0 (T - T % 2048) (by omega)
  rw [← HV.out] at h5
  refine ⟨rfl, 0, ?_, ?_, ?_⟩
  · have h6 := (HB2.out).far (p := ⟨gz, 0, none⟩) hne (.int .u64 (bits .andNot .u64 (T : Int) 2047))
    rw [show T / 2048 / 9007199254740992 = 0 by unfold W64 at HT3; omega, Nat.add_zero]
    simpa [FlB] using h6
  · rw [if_neg (by unfold W64 at HT3; omega), show 2048 * (T / 2048) = T - T % 2048 by omega]
    simpa using h5
  · exact (HO2.out).setCell (p := ⟨gz, 0, none⟩) (.inl (.inr rfl)) _
set_option maxRecDepth 20000 in
set_option maxHeartbeats 4000000 in
theorem r53_kD (B f gz m c e k T : Nat) (acc : Int) (neg : Bool) (ms : List Nat) (w : World) (hf : FlB w f 53 acc 1 neg (.slice (some ⟨gz, 0, none⟩) m c) e) (hm : OW w B (.slice (some ⟨gz, 0, none⟩) m c) ms) (hn : m ≤ 100000) (hne : f ≠ gz) (hmk : m = k + 1) (hk0 : k ≠ 0) (hk : k < ms.length) (hT : ms[k]'hk = T) (he : e < 100000) (hrb : T / 2 ^ 10 % 2 = 0) (hsb : stick ms k 10 = 1) :
    Calls Try.prog 78 #[.pointer (some ⟨f, 0, none⟩), .int .u64 0] w (Round53Post B f gz c neg e (T / 2048) w) := by
  obtain ⟨c0, c1, c2, c3, c4, c5, c6, fz⟩ := blk7 hf
  rw [show ((53 : Nat) : Int) = 53 from rfl] at c0
  have HF := Lib.hid hf
  have HM := Lib.hid hm
  have hml := hm.len
  have HT64 : Hid (T < W64) := by unfold Hid; rw [← hT]; exact hm.2 _ (List.getElem_mem _)
  have hw1 : IntKind.u32.wrap (m : Int) = (m : Int) := by rw [IntKind.wrap_u32]; omega
  obtain ⟨b, hbe⟩ : ∃ b : Nat, (m : Int) * 64 = (b : Int) := ⟨m * 64, by omega⟩
  have hw2 : IntKind.u32.wrap (b : Int) = (b : Int) := by rw [IntKind.wrap_u32]; omega
  have hd : decide ((b : Int) ≤ 53) = false := by simp; omega
  have hd2 : decide (b ≤ 53) = false := by simp; omega
  obtain ⟨b1, hb1⟩ : ∃ b1 : Nat, (b : Int) - 53 = (b1 : Int) := ⟨b - 53, by omega⟩
  obtain ⟨r, hr⟩ : ∃ r : Nat, (b1 : Int) - 1 = (r : Int) := ⟨b1 - 1, by omega⟩
  have hw3 : IntKind.u32.wrap (b1 : Int) = (b1 : Int) := by rw [IntKind.wrap_u32]; omega
  have hw4 : IntKind.u32.wrap (r : Int) = (r : Int) := by rw [IntKind.wrap_u32]; omega
  have hw5 : IntKind.u64.wrap (r : Int) = (r : Int) := wrap64_small _ (by omega) (by omega)
  have hr2 : r = 64 * k + 10 := by omega
  have hgz : gz ≠ f := fun h => hne h.symm
  have hm2 := hm.keep ((Only.refl (fun x => x = f) w).setCell (p := ⟨f, 2, none⟩) (.inl rfl) (.int .i8 0)) hgz
  have HBIT := Lib.hid (nat_bit B gz c m k 10 ms _ hm2 hk (by omega) hn)
  have HST := Lib.hid (nat_sticky B gz c m k 10 ms _ hm2 hk (by omega) hn)
  rw [hT, hrb, ← hr2, show ((0 : Nat) : Int) = 0 from rfl] at HBIT
  rw [hsb, ← hr2, show ((1 : Nat) : Int) = 1 from rfl] at HST
  have hmc : m ≤ c := by
    rcases hm.form with ⟨hv, _⟩ | ⟨_, _, hv, _, _, h1, _⟩
    · simp at hv
    · injection hv with _ _ h3
      omega
  have hsl1 := fun W => nat_one32 W gz m c (by omega)
  have HT := Lib.hid hT
  have hd3 : decide ((1 : Int) < (m : Int)) = true := by simp; omega
  have hd4 : decide (1 < m) = true := by simp; omega
  have hsl2 := fun W => nat_from32 W gz m c k (by omega) hmc (by omega)
  have hmk2 : (m : Int) - 1 = (k : Int) := by omega
  have hw6 : IntKind.u32.wrap (k : Int) = (k : Int) := by rw [IntKind.wrap_u32]; omega
  have HMK := Lib.hid hmk
  clear hf hm hm2 hrb hsb hT hml hr2 hmk hk0 hmc
  have h11 : bits .and .u64 1 1 = 1 := by decide
  have h01 : bits .and .u64 0 1 = 0 := by decide
  have o00 : bits .or .u64 0 0 = 0 := by decide
  have o01 : bits .or .u64 0 1 = 1 := by decide
  have o10 : bits .or .u64 1 0 = 1 := by decide
  have o11 : bits .or .u64 1 1 = 1 := by decide
  have hs11 : IntKind.u64.wrap ((2 : Int) ^ 11) = 2048 := by decide
  go_enter Try.func78, Try.ntmps78
  go_wp2_with fail
  refine HBIT.out.mono ?_
  rintro en w' ⟨rfl, rfl⟩
  go_wp2_with fail
  refine HST.out.mono ?_
  rintro en w' ⟨rfl, rfl⟩
  go_wp2_with fail
  have hb0 : FlB (w.setCell ⟨f, 2, none⟩ (.int .i8 0)) f 53 0 1 neg (.slice (some ⟨gz, 0, none⟩) m c) e := by simpa [FlB] using HF.out.put 2 (.int .i8 0)
  have hO0 : Only (· = f) w (w.setCell ⟨f, 2, none⟩ (.int .i8 0)) := (Only.refl (fun x => x = f) w).setCell (p := ⟨f, 2, none⟩) (.inl rfl) _
  obtain ⟨W0, hW0⟩ : ∃ W0, W0 = w.setCell ⟨f, 2, none⟩ (.int .i8 0) := ⟨_, rfl⟩
  rw [← hW0] at hb0 hO0 ⊢
  have H0 := Lib.hid (HM.out.keep hO0 hgz)
  have HB0 := Lib.hid hb0
  have HO0 := Lib.hid hO0
  clear hb0 hO0 hW0 c0 c1 c2 c3 c4 c5 c6 fz
  obtain ⟨d0, d1, d2, d3, d4, d5, d6, dz⟩ := blk7 HB0.out
  rw [show ((53 : Nat) : Int) = 53 from rfl] at d0
  go_still_tail 12, (by kernel_rfl)
  refine wpList_copy_top rfl (.tmp 82) (.tmp 90) rfl B gz m c k (m - k) (c - k) ms rfl rfl (by have := HMK.out; omega) (H0.out.hp rfl) hk ?_
  intro w1 h1 h2
  clear d0 d1 d2 d3 d4 d5 d6 dz
  have hb1 : FlB w1 f 53 0 1 neg (.slice (some ⟨gz, 0, none⟩) m c) e := (HB0.out.drew).only h2 hne
  obtain ⟨d0, d1, d2, d3, d4, d5, d6, dz⟩ := blk7 hb1
  have HB1 := Lib.hid hb1
  have H1 := Lib.hid h1
  have H2 := Lib.hid h2
  clear h1 h2 hb1
  go_upto_region 14 with fail
  clear d0 d1 d2 d3 d4 d5 d6 dz
  have hb2 : FlB (w1.setCell ⟨f, 5, none⟩ (.slice (some ⟨gz, 0, none⟩) 1 c)) f 53 0 1 neg (.slice (some ⟨gz, 0, none⟩) 1 c) e := by simpa [FlB] using HB1.out.put 5 (.slice (some ⟨gz, 0, none⟩) 1 c)
  have h3 : OW (w1.setCell ⟨f, 5, none⟩ (.slice (some ⟨gz, 0, none⟩) 1 c)) B (.slice (some ⟨gz, 0, none⟩) 1 c) [T] := by
    have h4 := (H1.out.take 1 (by simp)).keep ((Only.refl (fun x => x = f) w1).setCell (p := ⟨f, 5, none⟩) (.inl rfl) (.slice (some ⟨gz, 0, none⟩) 1 c)) hgz
    simpa [HT.out] using h4
  have hO2 : Only (fun k => k = f ∨ k = gz) w (w1.setCell ⟨f, 5, none⟩ (.slice (some ⟨gz, 0, none⟩) 1 c)) := ((((HO0.out.mono (fun k _ h => .inl h)).drew).trans (H2.out.mono (fun k _ h => .inr h)))).setCell (p := ⟨f, 5, none⟩) (.inl (.inl rfl)) _
  obtain ⟨W, hW⟩ : ∃ W, W = w1.setCell ⟨f, 5, none⟩ (.slice (some ⟨gz, 0, none⟩) 1 c) := ⟨_, rfl⟩
  rw [← hW] at hb2 h3 hO2 ⊢
  clear hW
  obtain ⟨d0, d1, d2, d3, d4, d5, d6, dz⟩ := blk7 hb2
  rw [show ((53 : Nat) : Int) = 53 from rfl] at d0
  have z0 := h3.cell 0 (by simp)
  simp only [List.getElem_cons_zero] at z0
  have zf := h3.free 0
  have HB2 := Lib.hid hb2
  have H3 := Lib.hid h3
  have HO2 := Lib.hid hO2
  clear hb2 h3 hO2
  go_wp2_with fail
  refine (make_acc _ _).mono ?_
  rintro en w' ⟨⟨acc', rfl⟩, rfl⟩
  go_wp2
  go_end0
  have HV := Lib.hid (clr_2047 T HT64.out)
  have HT3 := HT64.out
  have h5 := (H3.out.keep ((Only.refl (fun x => x = f) W).setCell (p := ⟨f, 2, none⟩) (.inl rfl) (.int .i8 acc')) hgz).store 0 (T - T % 2048) (by omega)
  rw [← HV.out] at h5
  refine ⟨rfl, acc', ?_, ?_, ?_⟩
  · have h6 := (HB2.out.put 2 (.int .i8 acc')).far (p := ⟨gz, 0, none⟩) hne (.int .u64 (bits .andNot .u64 (T : Int) 2047))
    rw [show T / 2048 / 9007199254740992 = 0 by unfold W64 at HT3; omega, Nat.add_zero]
    simpa [FlB] using h6
  · rw [if_neg (by unfold W64 at HT3; omega), show 2048 * (T / 2048) = T - T % 2048 by omega]
    simpa using h5
  · exact (HO2.out.setCell (p := ⟨f, 2, none⟩) (.inl (.inl rfl)) _).setCell (p := ⟨gz, 0, none⟩) (.inl (.inr rfl)) _
set_option maxRecDepth 20000 in
set_option maxHeartbeats 4000000 in
theorem r53_kH (B f gz m c e k T : Nat) (acc : Int) (neg : Bool) (ms : List Nat) (w : World) (hf : FlB w f 53 acc 1 neg (.slice (some ⟨gz, 0, none⟩) m c) e) (hm : OW w B (.slice (some ⟨gz, 0, none⟩) m c) ms) (hn : m ≤ 100000) (hne : f ≠ gz) (hmk : m = k + 1) (hk0 : k ≠ 0) (hk : k < ms.length) (hT : ms[k]'hk = T) (he : e < 100000) (hrb : T / 2 ^ 10 % 2 = 1) (hsb : stick ms k 10 = 0) (hlb : bits .and .u64 (T : Int) 2048 = 0) :
    Calls Try.prog 78 #[.pointer (some ⟨f, 0, none⟩), .int .u64 0] w (Round53Post B f gz c neg e (T / 2048) w) := by
  obtain ⟨c0, c1, c2, c3, c4, c5, c6, fz⟩ := blk7 hf
  rw [show ((53 : Nat) : Int) = 53 from rfl] at c0
  have HF := Lib.hid hf
  have HM := Lib.hid hm
  have hml := hm.len
  have HT64 : Hid (T < W64) := by unfold Hid; rw [← hT]; exact hm.2 _ (List.getElem_mem _)
  have hw1 : IntKind.u32.wrap (m : Int) = (m : Int) := by rw [IntKind.wrap_u32]; omega
  obtain ⟨b, hbe⟩ : ∃ b : Nat, (m : Int) * 64 = (b : Int) := ⟨m * 64, by omega⟩
  have hw2 : IntKind.u32.wrap (b : Int) = (b : Int) := by rw [IntKind.wrap_u32]; omega
  have hd : decide ((b : Int) ≤ 53) = false := by simp; omega
  have hd2 : decide (b ≤ 53) = false := by simp; omega
  obtain ⟨b1, hb1⟩ : ∃ b1 : Nat, (b : Int) - 53 = (b1 : Int) := ⟨b - 53, by omega⟩
  obtain ⟨r, hr⟩ : ∃ r : Nat, (b1 : Int) - 1 = (r : Int) := ⟨b1 - 1, by omega⟩
  have hw3 : IntKind.u32.wrap (b1 : Int) = (b1 : Int) := by rw [IntKind.wrap_u32]; omega
  have hw4 : IntKind.u32.wrap (r : Int) = (r : Int) := by rw [IntKind.wrap_u32]; omega
  have hw5 : IntKind.u64.wrap (r : Int) = (r : Int) := wrap64_small _ (by omega) (by omega)
  have hr2 : r = 64 * k + 10 := by omega
  have hgz : gz ≠ f := fun h => hne h.symm
  have hm2 := hm.keep ((Only.refl (fun x => x = f) w).setCell (p := ⟨f, 2, none⟩) (.inl rfl) (.int .i8 0)) hgz
  have HBIT := Lib.hid (nat_bit B gz c m k 10 ms _ hm2 hk (by omega) hn)
  have HST := Lib.hid (nat_sticky B gz c m k 10 ms _ hm2 hk (by omega) hn)
  rw [hT, hrb, ← hr2, show ((1 : Nat) : Int) = 1 from rfl] at HBIT
  rw [hsb, ← hr2, show ((0 : Nat) : Int) = 0 from rfl] at HST
  have hmc : m ≤ c := by
    rcases hm.form with ⟨hv, _⟩ | ⟨_, _, hv, _, _, h1, _⟩
    · simp at hv
    · injection hv with _ _ h3
      omega
  have hsl1 := fun W => nat_one32 W gz m c (by omega)
  have HT := Lib.hid hT
  have hd3 : decide ((1 : Int) < (m : Int)) = true := by simp; omega
  have hd4 : decide (1 < m) = true := by simp; omega
  have hsl2 := fun W => nat_from32 W gz m c k (by omega) hmc (by omega)
  have hmk2 : (m : Int) - 1 = (k : Int) := by omega
  have hw6 : IntKind.u32.wrap (k : Int) = (k : Int) := by rw [IntKind.wrap_u32]; omega
  have HMK := Lib.hid hmk
  clear hf hm hm2 hrb hsb hT hml hr2 hmk hk0 hmc
  have h11 : bits .and .u64 1 1 = 1 := by decide
  have h01 : bits .and .u64 0 1 = 0 := by decide
  have o00 : bits .or .u64 0 0 = 0 := by decide
  have o01 : bits .or .u64 0 1 = 1 := by decide
  have o10 : bits .or .u64 1 0 = 1 := by decide
  have o11 : bits .or .u64 1 1 = 1 := by decide
  have hs11 : IntKind.u64.wrap ((2 : Int) ^ 11) = 2048 := by decide
  go_enter Try.func78, Try.ntmps78
  go_wp2_with fail
  refine HBIT.out.mono ?_
  rintro en w' ⟨rfl, rfl⟩
  go_wp2_with fail
  refine HST.out.mono ?_
  rintro en w' ⟨rfl, rfl⟩
  go_wp2_with fail
  have hb0 : FlB (w.setCell ⟨f, 2, none⟩ (.int .i8 0)) f 53 0 1 neg (.slice (some ⟨gz, 0, none⟩) m c) e := by simpa [FlB] using HF.out.put 2 (.int .i8 0)
  have hO0 : Only (· = f) w (w.setCell ⟨f, 2, none⟩ (.int .i8 0)) := (Only.refl (fun x => x = f) w).setCell (p := ⟨f, 2, none⟩) (.inl rfl) _
  obtain ⟨W0, hW0⟩ : ∃ W0, W0 = w.setCell ⟨f, 2, none⟩ (.int .i8 0) := ⟨_, rfl⟩
  rw [← hW0] at hb0 hO0 ⊢
  have H0 := Lib.hid (HM.out.keep hO0 hgz)
  have HB0 := Lib.hid hb0
  have HO0 := Lib.hid hO0
  clear hb0 hO0 hW0 c0 c1 c2 c3 c4 c5 c6 fz
  obtain ⟨d0, d1, d2, d3, d4, d5, d6, dz⟩ := blk7 HB0.out
  rw [show ((53 : Nat) : Int) = 53 from rfl] at d0
  go_still_tail 12, (by kernel_rfl)
  refine wpList_copy_top rfl (.tmp 82) (.tmp 90) rfl B gz m c k (m - k) (c - k) ms rfl rfl (by have := HMK.out; omega) (H0.out.hp rfl) hk ?_
  intro w1 h1 h2
  clear d0 d1 d2 d3 d4 d5 d6 dz
  have hb1 : FlB w1 f 53 0 1 neg (.slice (some ⟨gz, 0, none⟩) m c) e := (HB0.out.drew).only h2 hne
  obtain ⟨d0, d1, d2, d3, d4, d5, d6, dz⟩ := blk7 hb1
  have HB1 := Lib.hid hb1
  have H1 := Lib.hid h1
  have H2 := Lib.hid h2
  clear h1 h2 hb1
  go_upto_region 14 with fail
  clear d0 d1 d2 d3 d4 d5 d6 dz
  have hb2 : FlB (w1.setCell ⟨f, 5, none⟩ (.slice (some ⟨gz, 0, none⟩) 1 c)) f 53 0 1 neg (.slice (some ⟨gz, 0, none⟩) 1 c) e := by simpa [FlB] using HB1.out.put 5 (.slice (some ⟨gz, 0, none⟩) 1 c)
  have h3 : OW (w1.setCell ⟨f, 5, none⟩ (.slice (some ⟨gz, 0, none⟩) 1 c)) B (.slice (some ⟨gz, 0, none⟩) 1 c) [T] := by
    have h4 := (H1.out.take 1 (by simp)).keep ((Only.refl (fun x => x = f) w1).setCell (p := ⟨f, 5, none⟩) (.inl rfl) (.slice (some ⟨gz, 0, none⟩) 1 c)) hgz
    simpa [HT.out] using h4
  have hO2 : Only (fun k => k = f ∨ k = gz) w (w1.setCell ⟨f, 5, none⟩ (.slice (some ⟨gz, 0, none⟩) 1 c)) := ((((HO0.out.mono (fun k _ h => .inl h)).drew).trans (H2.out.mono (fun k _ h => .inr h)))).setCell (p := ⟨f, 5, none⟩) (.inl (.inl rfl)) _
  obtain ⟨W, hW⟩ : ∃ W, W = w1.setCell ⟨f, 5, none⟩ (.slice (some ⟨gz, 0, none⟩) 1 c) := ⟨_, rfl⟩
  rw [← hW] at hb2 h3 hO2 ⊢
  clear hW
  obtain ⟨d0, d1, d2, d3, d4, d5, d6, dz⟩ := blk7 hb2
  rw [show ((53 : Nat) : Int) = 53 from rfl] at d0
  have z0 := h3.cell 0 (by simp)
  simp only [List.getElem_cons_zero] at z0
  have zf := h3.free 0
  have HB2 := Lib.hid hb2
  have H3 := Lib.hid h3
  have HO2 := Lib.hid hO2
  clear hb2 h3 hO2
  go_wp2_with fail
  refine (make_acc _ _).mono ?_
  rintro en w' ⟨⟨acc', rfl⟩, rfl⟩
  go_wp2
  go_end0
  have HV := Lib.hid (clr_2047 T HT64.out)
  have HT3 := HT64.out
  have h5 := (H3.out.keep ((Only.refl (fun x => x = f) W).setCell (p := ⟨f, 2, none⟩) (.inl rfl) (.int .i8 acc')) hgz).store 0 (T - T % 2048) (by omega)
  rw [← HV.out] at h5
  refine ⟨rfl, acc', ?_, ?_, ?_⟩
  · have h6 := (HB2.out.put 2 (.int .i8 acc')).far (p := ⟨gz, 0, none⟩) hne (.int .u64 (bits .andNot .u64 (T : Int) 2047))
    rw [show T / 2048 / 9007199254740992 = 0 by unfold W64 at HT3; omega, Nat.add_zero]
    simpa [FlB] using h6
  · rw [if_neg (by unfold W64 at HT3; omega), show 2048 * (T / 2048) = T - T % 2048 by omega]
    simpa using h5
  · exact (HO2.out.setCell (p := ⟨f, 2, none⟩) (.inl (.inl rfl)) _).setCell (p := ⟨gz, 0, none⟩) (.inl (.inr rfl)) _
end Go.Proofs.Ytndeolcamgnmdaa
