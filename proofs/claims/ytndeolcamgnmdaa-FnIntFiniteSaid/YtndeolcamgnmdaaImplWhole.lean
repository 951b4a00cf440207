/- The thin package's integer made an int of the language; its sign. -/
import Derived.Test.YtndeolcamgnmdaaMakeInt
namespace Go.Proofs.Ytndeolcamgnmdaa
open Go.RowKit
theorem intOf2_valI {neg : Bool} {l ws : List Nat} (hv : valW ws = natOf l) : intOf2 neg l = valI neg ws := by unfold intOf2 valI; rw [hv]
theorem si_fin {w w' : World} {n : Int} {v : Value} {B : Nat} (h : SI w B v n) : ∃ x p, v = .agg #[.int .i64 x, .pointer p] := by
  rcases h with ⟨_, hv⟩ | ⟨_, b, _, _, hv, _⟩
  · exact ⟨_, _, hv⟩
  · exact ⟨_, _, hv⟩
set_option maxRecDepth 100000 in
set_option maxHeartbeats 4000000 in
theorem impl_whole (B : Nat) (v : Value) (neg : Bool) (l : List Nat) (w : World) (hv : IVal w B v neg l) (hl : l.length ≤ 1000) :
    Calls Try.prog 23 #[v] w (SIPost (intOf2 neg l) w) := by
  obtain ⟨vs, rfl, hob, hh, hn⟩ := hv
  obtain ⟨g, c, hvs, hg1, hg2, _, _⟩ := hob.form
  obtain ⟨m, hm⟩ : ∃ m, m = l.length := ⟨_, rfl⟩
  rw [← hm] at hvs
  subst hvs
  have HOB := Lib.hid hob
  have HM := Lib.hid hm
  have HH := Lib.hid hh
  have HNN := Lib.hid hn
  have hm1 : m ≤ 1000 := by omega
  obtain ⟨C6, hC6⟩ : ∃ C6, C6 = #[Value.int .i64 2, .bool neg, .slice (some ⟨g, 0, none⟩) m c, .int .u64 0, .string ⟨#[]⟩, .slice none 0 0] := ⟨_, rfl⟩
  have K0 := Lib.hid (Blk.alloc (Blk.alloc (Blk.new w 28 #[.int .i64 2, .bool neg, .slice (some ⟨g, 0, none⟩) m c, .int .u64 0, .string ⟨#[]⟩, .slice none 0 0]) (.cells #[.int .i64 0, .pointer none] 57)) (.cells #[.bool false, .slice none 0 0] 74))
  have K1 := Lib.hid (Blk.alloc (Blk.new_at (w.alloc (.cells #[.int .i64 2, .bool neg, .slice (some ⟨g, 0, none⟩) m c, .int .u64 0, .string ⟨#[]⟩, .slice none 0 0] 28)) 57 #[.int .i64 0, .pointer none] (n := w.heap.size + 1) (by simp)) (.cells #[.bool false, .slice none 0 0] 74))
  have HB0 : Hid (∀ a b c : Obj, Below w.heap.size w (((w.alloc a).alloc b).alloc c)) := fun a b c => (((Below.refl _ w).alloc (Nat.le_refl _) a).alloc (by simp) b).alloc (by simp; omega) c
  clear hob hm hh hn hC6 hl
  go_enter Try.func23, Try.ntmps23
  go_wp2_with fail
  refine (int_setBytes B (w.heap.size + 1 + 1) g m c l _ (Blk.new_at _ _ _ (by simp)) (HOB.out.below (HB0.out _ _ _)) hm1 HM.out).mono ?_
  rintro e w1 ⟨ws, rfl, hbi, hval, hO⟩
  have k0 := Lib.hid (K0.out.only hO (by omega))
  have k1 := Lib.hid (K1.out.only hO (by simp))
  have hbw := Lib.hid (show Below w.heap.size w w1 from (HB0.out _ _ _).trans (hO.to_below (by simp; omega) (fun k _ e => by omega)))
  have hz : w.heap.size + 3 ≤ w1.heap.size := by have := hO.size; simp at this; omega
  have HBI := Lib.hid (hbi.base (C := w.heap.size + 3) (by simp))
  have HV := Lib.hid (intOf2_valI (neg := neg) hval)
  have HVAL := Lib.hid hval
  obtain ⟨e0, e1, e2, e3, e4, e5, _, _, _, _, _, _⟩ := blk6 k0.out
  clear hbi hval hO
  cases neg with
  | false =>
    go_wp2_with fail
    refine (make_bigint (w.heap.size + 3) (w.heap.size + 1 + 1) false ws _ HBI.out).mono ?_
    rw [← HV.out]
    obtain ⟨n, hn⟩ : ∃ n, n = intOf2 false l := ⟨_, rfl⟩
    rw [← hn]
    rintro e w2 ⟨v2, rfl, hsi, hb2⟩
    obtain ⟨x, p, hv2⟩ := si_fin (w' := w2) hsi
    have hsi' := Lib.hid (hsi.base (C := w.heap.size + 3) hz)
    subst hv2
    obtain ⟨c0, c1, f0, f1⟩ := blk2 (k1.out.below hb2 k1.out.lt)
    have hbw2 := Lib.hid (hbw.out.trans (hb2.mono (by omega)))
    have HN := Lib.hid hn
    clear hsi hb2 hn
    go_wp2
    refine bodyPost_ret (v := .agg #[.int .i64 x, .pointer p]) (by simp [results, Try.results23, go_sem, c0, c1]) rfl ⟨_, rfl, ?_, (hbw2.out.setCell (p := ⟨w.heap.size + 1, 0, none⟩) (by simp) _).setCell (p := ⟨w.heap.size + 1, 1, none⟩) (by simp) _⟩
    rw [← HN.out]
    exact (hsi'.out.only (two_set w2 (w.heap.size + 1) (.int .i64 x) (.pointer p)) (fun k hk e => by omega)).base (by omega)
  | true =>
    go_wp2_with fail
    refine (int_neg (w.heap.size + 3) (w.heap.size + 1 + 1) ws _ (by omega) HBI.out).mono ?_
    have hne : (!ws.isEmpty) = true := by
      cases hw : ws with
      | nil =>
        exfalso
        have h1 := HVAL.out
        rw [hw] at h1
        exact HNN.out (by first | rfl | trivial) ((natOf_eq_zero HH.out).1 h1.symm)
      | cons x y => rfl
    unfold NegPost
    rw [hne]
    rintro e w1' ⟨rfl, hbi2, hO2⟩
    have hz2 : w.heap.size + 3 ≤ w1'.heap.size := Nat.le_trans hz hO2.size
    have k1' := Lib.hid (k1.out.only hO2 (by omega))
    have hbw' := Lib.hid (hbw.out.trans (hO2.to_below (by omega) (fun k _ e => by omega)))
    have HBI2 := Lib.hid hbi2
    clear hne hbi2 hO2
    go_wp2_with fail
    refine (make_bigint (w.heap.size + 3) (w.heap.size + 1 + 1) true ws _ HBI2.out).mono ?_
    rw [← HV.out]
    obtain ⟨n, hn⟩ : ∃ n, n = intOf2 true l := ⟨_, rfl⟩
    rw [← hn]
    rintro e w2 ⟨v2, rfl, hsi, hb2⟩
    obtain ⟨x, p, hv2⟩ := si_fin (w' := w2) hsi
    have hsi' := Lib.hid (hsi.base (C := w.heap.size + 3) hz2)
    subst hv2
    obtain ⟨c0, c1, f0, f1⟩ := blk2 (k1'.out.below hb2 k1'.out.lt)
    have hbw2 := Lib.hid (hbw'.out.trans (hb2.mono (by omega)))
    have HN := Lib.hid hn
    clear hsi hb2 hn
    go_wp2
    refine bodyPost_ret (v := .agg #[.int .i64 x, .pointer p]) (by simp [results, Try.results23, go_sem, c0, c1]) rfl ⟨_, rfl, ?_, (hbw2.out.setCell (p := ⟨w.heap.size + 1, 0, none⟩) (by simp) _).setCell (p := ⟨w.heap.size + 1, 1, none⟩) (by simp) _⟩
    rw [← HN.out]
    exact (hsi'.out.only (two_set w2 (w.heap.size + 1) (.int .i64 x) (.pointer p)) (fun k hk e => by omega)).base (by omega)
end Go.Proofs.Ytndeolcamgnmdaa
