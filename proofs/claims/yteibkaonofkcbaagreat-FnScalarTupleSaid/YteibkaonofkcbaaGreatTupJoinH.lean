/- Joined texts: ImplWhole, IntGet, IntSign, Low. -/
import Derived.Test.YteibkaonofkcbaaGreatMakeInt
import Derived.Test.YteibkaonofkcbaaGreatTupJoinA
set_option linter.unusedSimpArgs false
set_option linter.unusedVariables false
namespace Go.Proofs.YteibkaonofkcbaaGreat
open Go.RowKit
theorem intOf2_valI {neg : Bool} {l ws : List Nat} (hv : valW ws = natOf l) : intOf2 neg l = valI neg ws := by unfold intOf2 valI; rw [hv]
theorem si_fin {w w' : World} {n : Int} {v : Value} {B : Nat} (h : SI w B v n) : ∃ x p, v = .agg #[.int .i64 x, .pointer p] := by
  rcases h with ⟨_, hv⟩ | ⟨_, b, _, _, hv, _⟩
  · exact ⟨_, _, hv⟩
  · exact ⟨_, _, hv⟩
set_option maxRecDepth 100000 in
set_option maxHeartbeats 4000000 in
theorem impl_whole (B : Nat) (v : Value) (neg : Bool) (l : List Nat) (w : World) (hv : IVal w B v neg l) (hl : l.length ≤ 1000) :
    Calls Tryz.prog 60 #[v] w (SIPost (intOf2 neg l) w) := by
  obtain ⟨vs, rfl, hob, hh, hn⟩ := hv
  obtain ⟨g, c, hvs, hg1, hg2, _, _⟩ := hob.form
  obtain ⟨m, hm⟩ : ∃ m, m = l.length := ⟨_, rfl⟩
  rw [← hm] at hvs
  subst hvs
  have HOB := Lib.hid hob
  have HM := Lib.hid hm
  have HH := Lib.hid hh
  have HNN := Lib.hid hn
  have hm1 : m ≤ 1000 := by omega
  obtain ⟨C6, hC6⟩ : ∃ C6, C6 = #[Value.int .i64 2, .bool neg, .slice (some ⟨g, 0, none⟩) m c, .int .u64 0, .string ⟨#[]⟩, .slice none 0 0] := ⟨_, rfl⟩
  have K0 := Lib.hid (Blk.alloc (Blk.alloc (Blk.new w 33 #[.int .i64 2, .bool neg, .slice (some ⟨g, 0, none⟩) m c, .int .u64 0, .string ⟨#[]⟩, .slice none 0 0]) (.cells #[.int .i64 0, .pointer none] 115)) (.cells #[.bool false, .slice none 0 0] 136))
  have K1 := Lib.hid (Blk.alloc (Blk.new_at (w.alloc (.cells #[.int .i64 2, .bool neg, .slice (some ⟨g, 0, none⟩) m c, .int .u64 0, .string ⟨#[]⟩, .slice none 0 0] 33)) 115 #[.int .i64 0, .pointer none] (n := w.heap.size + 1) (by simp)) (.cells #[.bool false, .slice none 0 0] 136))
  have HB0 : Hid (∀ a b c : Obj, Below w.heap.size w (((w.alloc a).alloc b).alloc c)) := fun a b c => (((Below.refl _ w).alloc (Nat.le_refl _) a).alloc (by simp) b).alloc (by simp; omega) c
  clear hob hm hh hn hC6 hl
  go_enter Tryz.func60, Tryz.ntmps60
  go_wp2_with fail
  refine (int_setBytes B (w.heap.size + 1 + 1) g m c l _ (Blk.new_at _ _ _ (by simp)) (HOB.out.below (HB0.out _ _ _)) hm1 HM.out).mono ?_
  rintro e w1 ⟨ws, rfl, hbi, hval, hO⟩
  have k0 := Lib.hid (K0.out.only hO (by omega))
  have k1 := Lib.hid (K1.out.only hO (by simp))
  have hbw := Lib.hid (show Below w.heap.size w w1 from (HB0.out _ _ _).trans (hO.to_below (by simp; omega) (fun k _ e => by omega)))
  have hz : w.heap.size + 3 ≤ w1.heap.size := by have := hO.size; simp at this; omega
  have HBI := Lib.hid (hbi.base (C := w.heap.size + 3) (by simp))
  have HV := Lib.hid (intOf2_valI (neg := neg) hval)
  have HVAL := Lib.hid hval
  obtain ⟨e0, e1, e2, e3, e4, e5, _, _, _, _, _, _⟩ := blk6 k0.out
  clear hbi hval hO
  cases neg with
  | false =>
    go_wp2_with fail
    refine (make_bigint (w.heap.size + 3) (w.heap.size + 1 + 1) false ws _ HBI.out).mono ?_
    rw [← HV.out]
    obtain ⟨n, hn⟩ : ∃ n, n = intOf2 false l := ⟨_, rfl⟩
    rw [← hn]
    rintro e w2 ⟨v2, rfl, hsi, hb2⟩
    obtain ⟨x, p, hv2⟩ := si_fin (w' := w2) hsi
    have hsi' := Lib.hid (hsi.base (C := w.heap.size + 3) hz)
    subst hv2
    obtain ⟨c0, c1, f0, f1⟩ := blk2 (k1.out.below hb2 k1.out.lt)
    have hbw2 := Lib.hid (hbw.out.trans (hb2.mono (by omega)))
    have HN := Lib.hid hn
    clear hsi hb2 hn
    go_wp2
    refine bodyPost_ret (v := .agg #[.int .i64 x, .pointer p]) (by simp [results, Tryz.results60, go_sem, c0, c1]) rfl ⟨_, rfl, ?_, (hbw2.out.setCell (p := ⟨w.heap.size + 1, 0, none⟩) (by simp) _).setCell (p := ⟨w.heap.size + 1, 1, none⟩) (by simp) _⟩
    rw [← HN.out]
    exact (hsi'.out.only (two_set w2 (w.heap.size + 1) (.int .i64 x) (.pointer p)) (fun k hk e => by omega)).base (by omega)
  | true =>
    go_wp2_with fail
    refine (int_neg (w.heap.size + 3) (w.heap.size + 1 + 1) ws _ (by omega) HBI.out).mono ?_
    have hne : (!ws.isEmpty) = true := by
      cases hw : ws with
      | nil =>
        exfalso
        have h1 := HVAL.out
        rw [hw] at h1
        exact HNN.out (by first | rfl | trivial) ((natOf_eq_zero HH.out).1 h1.symm)
      | cons x y => rfl
    unfold NegPost
    rw [hne]
    rintro e w1' ⟨rfl, hbi2, hO2⟩
    have hz2 : w.heap.size + 3 ≤ w1'.heap.size := Nat.le_trans hz hO2.size
    have k1' := Lib.hid (k1.out.only hO2 (by omega))
    have hbw' := Lib.hid (hbw.out.trans (hO2.to_below (by omega) (fun k _ e => by omega)))
    have HBI2 := Lib.hid hbi2
    clear hne hbi2 hO2
    go_wp2_with fail
    refine (make_bigint (w.heap.size + 3) (w.heap.size + 1 + 1) true ws _ HBI2.out).mono ?_
    rw [← HV.out]
    obtain ⟨n, hn⟩ : ∃ n, n = intOf2 true l := ⟨_, rfl⟩
    rw [← hn]
    rintro e w2 ⟨v2, rfl, hsi, hb2⟩
    obtain ⟨x, p, hv2⟩ := si_fin (w' := w2) hsi
    have hsi' := Lib.hid (hsi.base (C := w.heap.size + 3) hz2)
    subst hv2
    obtain ⟨c0, c1, f0, f1⟩ := blk2 (k1'.out.below hb2 k1'.out.lt)
    have hbw2 := Lib.hid (hbw'.out.trans (hb2.mono (by omega)))
    have HN := Lib.hid hn
    clear hsi hb2 hn
    go_wp2
    refine bodyPost_ret (v := .agg #[.int .i64 x, .pointer p]) (by simp [results, Tryz.results60, go_sem, c0, c1]) rfl ⟨_, rfl, ?_, (hbw2.out.setCell (p := ⟨w.heap.size + 1, 0, none⟩) (by simp) _).setCell (p := ⟨w.heap.size + 1, 1, none⟩) (by simp) _⟩
    rw [← HN.out]
    exact (hsi'.out.only (two_set w2 (w.heap.size + 1) (.int .i64 x) (.pointer p)) (fun k hk e => by omega)).base (by omega)
end Go.Proofs.YteibkaonofkcbaaGreat
namespace Go.Proofs.YteibkaonofkcbaaGreat
open Go.RowKit
theorem int_get (x : Int) (p : Option Addr) (w : World) :
    Calls Tryz.prog 85 #[.agg #[.int .i64 x, .pointer p]] w fun e w' => e = .returned (.tuple #[.int .i64 x, .pointer p]) ∧ Below w.heap.size w w' := by
  go_enter Tryz.func85, Tryz.ntmps85
  go_wp2_with fail
  go_quiet (fail)
  go_wp2
  go_ret2
  exact ⟨rfl, below_dn ((Below.refl _ w).alloc (Nat.le_refl _) _) _⟩
end Go.Proofs.YteibkaonofkcbaaGreat
namespace Go.Proofs.YteibkaonofkcbaaGreat
open Go.RowKit
theorem sg_zero : wrap64 (bits .or .u64 0 0) = 0 := by decide +kernel
theorem sg_pos (x : Int) (h0 : 0 < x) (h1 : x < 2147483648) : wrap64 (bits .or .u64 (x / 9223372036854775808) (IntKind.u64.wrap (-x) / 9223372036854775808)) = 1 := by
  have e1 : x / 9223372036854775808 = 0 := by omega
  have e2 : IntKind.u64.wrap (-x) / 9223372036854775808 = 1 := by
    have h : IntKind.u64.wrap (-x) = 18446744073709551616 - x := by
      simp [IntKind.wrap, IntKind.bits, IntKind.signed]
      omega
    rw [h]; omega
  rw [e1, e2]
  decide +kernel
theorem sg_neg (x : Int) (h0 : x < 0) (h1 : -2147483648 ≤ x) : wrap64 (bits .or .u64 (IntKind.u64.wrap (x / 9223372036854775808)) (-x / 9223372036854775808)) = -1 := by
  have e1 : x / 9223372036854775808 = -1 := by omega
  have e2 : -x / 9223372036854775808 = 0 := by omega
  rw [e1, e2]
  decide +kernel
def sgnS (n : Int) : Int := if n < 0 then -1 else if n = 0 then 0 else 1
theorem signum_any (x : Int) (h0 : x < 2147483648) (h1 : -2147483648 ≤ x) (w : World) :
    Calls Tryz.prog 75 #[.int .i64 x] w (IntPost (sgn x) w) := by
  by_cases hn : x < 0
  · have HS : Hid (sgn x = -1) := by unfold Hid sgn; rw [if_pos hn]
    have HV := Lib.hid (sg_neg x hn h1)
    go_enter Tryz.func75, Tryz.ntmps75
    go_wp2
    go_ret
    exact ⟨ret_int (by rw [HS.out]; exact HV.out), rfl⟩
  · by_cases hz : x = 0
    · subst hz
      have HS : Hid (sgn 0 = 0) := rfl
      go_enter Tryz.func75, Tryz.ntmps75
      go_wp2
      go_ret
      exact ⟨ret_int (by rw [HS.out]; exact sg_zero), rfl⟩
    · have HS : Hid (sgn x = 1) := by unfold Hid sgn; rw [if_neg hn, if_neg hz]
      have hp : 0 < x := by omega
      have HV := Lib.hid (sg_pos x hp h0)
      clear hn hz
      go_enter Tryz.func75, Tryz.ntmps75
      go_wp2
      go_ret
      exact ⟨ret_int (by rw [HS.out]; exact HV.out), rfl⟩
theorem signW_sgn (neg : Bool) (ws : List Nat) (ht : TopNZ ws) : signW neg ws = sgn (valI neg ws) := by
  unfold signW sgn valI
  by_cases h : ws = []
  · subst h; cases neg <;> simp [valW]
  · have hp : 0 < valW ws := by
      obtain ⟨init, last, rfl⟩ : ∃ init last, ws = init ++ [last] := ⟨ws.dropLast, ws.getLast h, (List.dropLast_concat_getLast h).symm⟩
      have hl0 : last ≠ 0 := by unfold TopNZ at ht; simpa using ht
      have h1 := valW_top init last hl0
      have h2 : 0 < W64 ^ init.length := Nat.pow_pos W64_pos
      omega
    rw [if_neg h]
    cases neg
    · simp; omega
    · simp; omega
def SgnPost (n : Int) (w : World) (e : Ending) (w' : World) : Prop := e = .returned (.int .i64 (sgn n)) ∧ Below w.heap.size w w'
end Go.Proofs.YteibkaonofkcbaaGreat
namespace Go.Proofs.YteibkaonofkcbaaGreat
open Go.RowKit
theorem digit_any (B g n c : Nat) (l : List Nat) (i : Nat) (w : World) (h : OB w B (.slice (some ⟨g, 0, none⟩) n c) l) (hn : n = l.length) (hi : i ≤ 4000000000) (hm : n ≤ 4000000000) :
    Calls Tryz.prog 96 #[.slice (some ⟨g, 0, none⟩) n c, .int .i64 (i : Int)] w (IntPost ((dig (natOf l) i : Nat) : Int) w) := by
  obtain ⟨d, hd⟩ : ∃ d, d = dig (natOf l) i := ⟨_, rfl⟩
  rw [← hd]
  have hdl : d < 256 := by rw [hd]; exact dig_lt _ _
  by_cases hlt : i < n
  · obtain ⟨k, hk⟩ : ∃ k, n = k + i + 1 := ⟨n - 1 - i, by omega⟩
    have hkl : k < l.length := by omega
    have hc := h.cell k hkl
    rw [← dig_at l i h.2.2 k hkl (by omega), ← hd] at hc
    have e1 : (n : Int) - 1 - (i : Int) = (k : Int) := by omega
    have hk1 : (k : Int) < (n : Int) := by omega
    have hd1 : decide (n ≤ i) = false := by simp; omega
    have hd2 : decide ((n : Int) ≤ (i : Int)) = false := by simp; omega
    clear h hn hkl hk hd
    go_enter Tryz.func96, Tryz.ntmps96
    go_wp2
    go_ret
    exact ⟨rfl, rfl⟩
  · have h0 : d = 0 := by rw [hd]; exact dig_over l i h.2.2 (by omega)
    subst h0
    have hd1 : decide (n ≤ i) = true := by simp; omega
    have hd2 : decide ((n : Int) ≤ (i : Int)) = true := by simp; omega
    clear h hn hd
    go_enter Tryz.func96, Tryz.ntmps96
    go_wp2
    go_ret
    exact ⟨rfl, rfl⟩
theorem or_low (u d : Nat) (hu : u < 72057594037927936) (hd : d < 256) : bits .or .u64 ((u : Int) * 256) (d : Int) = ((u * 256 + d : Nat) : Int) := by
  have e1 := u64_or8 (y := (d : Int)) (x := (u : Int) * 256) (by omega) (by omega) (by omega) (by omega) (by omega)
  have ec : bits .or .u64 ((u : Int) * 256) (d : Int) = bits .or .u64 (d : Int) ((u : Int) * 256) := by simp only [bits, BitVec.or_comm]
  rw [ec, e1]; simp; omega
end Go.Proofs.YteibkaonofkcbaaGreat
