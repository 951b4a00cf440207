/- The reference's number of a value; the place that it asks for; how many arguments there are. -/
import Derived.Test.YtmpfffcdpecadaaGreatSx
import Derived.Test.YtmpfffcdpecadaaGreatNum
import Derived.Test.YtmpfffcdpecadaaGreatSI64
import Derived.Test.YtmpfffcdpecadaaGreatAsIntX
import Derived.Deep.QuietTactic
import Derived.BigQuiet
namespace Go.Proofs.YtmpfffcdpecadaaGreat
open Go.RowKit
attribute [local go_sem ↓] Go.wp_at_zero Go.wp_at_succ
theorem bsl_none (w : World) : BSl w (.slice none 0 0) [] :=
  ⟨none, 0, rfl, Nat.le_refl _, Nat.zero_le _, by simp, fun _ => ⟨rfl, rfl⟩, fun p h => by simp at h⟩
/-- The number that the reference takes a value for. -/
def numX : Sx → Int
  | .int neg l => intOf2 neg l
  | _ => 0
def NumXPost (s : Sx) (w : World) (e : Ending) (w' : World) : Prop := ∃ u B neg l, e = .returned u ∧ SInt w' B u neg l ∧ l.length ≤ 40 ∧ intOf2 neg l = numX s ∧ Below w.heap.size w w'
theorem num_x (v : Value) (s : Sx) (w : World) (hv : XVal w 0 v s) : Calls Tryz.prog 26 #[v] w (NumXPost s w) := by
  have key : ∀ k neg a n c b tx l, v = pv k neg a n c b tx none 0 0 → BSl w (.slice a n c) l → l.length ≤ 40 → intOf2 neg l = numX s → Calls Tryz.prog 26 #[v] w (NumXPost s w) := by
    rintro k neg a n c b tx l rfl hb hl hn
    refine (num_any k neg a n c b tx none 0 0 l w hb (by omega)).mono ?_
    rintro e w' ⟨u, rfl, hsi, hbb⟩
    exact ⟨u, _, _, _, rfl, hsi, Nat.le_trans (strip_le l) hl, by rw [of_val3, hn], hbb⟩
  cases s with
  | none => exact key 0 false none 0 0 0 ⟨#[]⟩ [] hv (bsl_none w) (by simp) rfl
  | bool b => exact key 1 false none 0 0 _ ⟨#[]⟩ [] hv (bsl_none w) (by simp) rfl
  | float f => exact key 3 false none 0 0 _ ⟨#[]⟩ [] hv (bsl_none w) (by simp) rfl
  | str t => exact key 4 false none 0 0 0 t [] hv.1 (bsl_none w) (by simp) rfl
  | byt t => exact key 5 false none 0 0 0 t [] hv.1 (bsl_none w) (by simp) rfl
  | int neg l =>
    obtain ⟨⟨vs, hv, ho, _, _⟩, hl⟩ := hv
    obtain ⟨g, c, hvs, _⟩ := ho.form
    refine key 2 neg (some ⟨g, 0, Option.none⟩) l.length c 0 ⟨#[]⟩ l (by rw [hv, hvs]; rfl) ?_ hl rfl
    rw [← hvs]; exact ho.bsl
theorem arity_two (a : Option Addr) (c : Nat) (w : World) : Calls Tryz.prog 38 #[.slice a 2 c, .int .i64 2, .int .i64 2] w fun e w' => e = .returned (.bool true) ∧ w = w' := by
  go_enter Tryz.func38, Tryz.ntmps38
  go_wp2
  go_ret
  exact ⟨rfl, rfl⟩
def W64Post (s : Sx) (w : World) (e : Ending) (w' : World) : Prop := (∃ k : Int, e = .returned (.tuple #[.int .i64 k, .bool (idxX s).isSome]) ∧ ∀ j, idxX s = some j → k = j) ∧ Below w.heap.size w w'
set_option maxRecDepth 20000 in
set_option maxHeartbeats 1000000 in
theorem whole64_x (v : Value) (s : Sx) (w : World) (hv : XVal w 0 v s) : Calls Tryz.prog 61 #[v] w (W64Post s w) := by
  obtain ⟨neg, a, n, c, b, tx, he⟩ := hv.form
  obtain ⟨kd, hkd⟩ : ∃ kd, kd = kx s := ⟨_, rfl⟩
  rw [← hkd] at he
  have HB0 : Hid (Below w.heap.size w (w.alloc (.cells #[.int .i64 kd, .bool neg, .slice a n c, .int .u64 b, .string tx, .slice none 0 0] 26))) := (Below.refl w.heap.size w).alloc (Nat.le_refl _) _
  have HN := Lib.hid (num_x v s _ (hv.below HB0.out))
  rw [he] at HN ⊢
  have HK0 := Lib.hid (Blk.new w 26 #[.int .i64 kd, .bool neg, .slice a n c, .int .u64 b, .string tx, .slice none 0 0])
  unfold pv at HN ⊢
  obtain ⟨m, hm⟩ : ∃ m, m = numX s := ⟨_, rfl⟩
  have HM := Lib.hid hm.symm
  have HKD := Lib.hid hkd
  have hside : (kd = 2 ∧ ((-9223372036854775808 ≤ m ∧ m ≤ 9223372036854775807) ∧ idxX s = some m ∨ ¬ (-9223372036854775808 ≤ m ∧ m ≤ 9223372036854775807) ∧ idxX s = none)) ∨ (kd ≠ 2 ∧ m = 0 ∧ idxX s = none) := by
    cases s with
    | int ng l =>
      refine .inl ⟨hkd, ?_⟩
      have hm' : m = intOf2 ng l := hm
      by_cases hf : -9223372036854775808 ≤ intOf2 ng l ∧ intOf2 ng l ≤ 9223372036854775807
      · exact .inl ⟨by rw [hm']; exact hf, by rw [idxX_int, if_pos hf, hm']⟩
      · exact .inr ⟨by rw [hm']; exact hf, by rw [idxX_int, if_neg hf]⟩
    | none => exact .inr ⟨by rw [hkd]; simp [kx], hm, rfl⟩
    | bool b => exact .inr ⟨by rw [hkd]; simp [kx], hm, rfl⟩
    | float f => exact .inr ⟨by rw [hkd]; simp [kx], hm, rfl⟩
    | str t => exact .inr ⟨by rw [hkd]; simp [kx], hm, rfl⟩
    | byt t => exact .inr ⟨by rw [hkd]; simp [kx], hm, rfl⟩
  clear hv he hm hkd
  rcases hside with ⟨rfl, ⟨hf, hix⟩ | ⟨hf, hix⟩⟩ | ⟨hk, rfl, hix⟩
  · have HF := Lib.hid hf
    have HIX := Lib.hid hix
    clear hf hix
    go_enter Tryz.func61, Tryz.ntmps61
    go_wp2_with fail
    refine HN.out.mono ?_
    rintro e w1 ⟨u, B1, ng, l, rfl, hsi, hl, hnm, hb1⟩
    have hS := spec_int64 B1 u ng l w1 hsi (by omega)
    rw [hnm, HM.out] at hS
    unfold S64Post at hS
    rw [if_pos HF.out, decide_eq_true HF.out] at hS
    have HS := Lib.hid hS
    have HB1 := Lib.hid (HB0.out.trans (hb1.mono HB0.out.size))
    have HK1 := Lib.hid (HK0.out.below hb1 HK0.out.lt)
    clear hS hsi hl hnm hb1
    go_wp2_with fail
    refine HS.out.mono ?_
    rintro e w2 ⟨rfl, hb2⟩
    have HB2 := Lib.hid (HB1.out.trans (hb2.mono HB1.out.size))
    have e0 : w2.cell? ⟨w.heap.size, 0, none⟩ = some (.int .i64 2) := ((HK1.out.below hb2 HK1.out.lt).cell 0).trans rfl
    clear hb2
    go_wp2
    go_ret2
    exact ⟨⟨m, by rw [HIX.out]; rfl, fun j hj => by rw [HIX.out] at hj; injection hj⟩, HB2.out⟩
  · have HF := Lib.hid hf
    have HIX := Lib.hid hix
    clear hf hix
    go_enter Tryz.func61, Tryz.ntmps61
    go_wp2_with fail
    refine HN.out.mono ?_
    rintro e w1 ⟨u, B1, ng, l, rfl, hsi, hl, hnm, hb1⟩
    have hS := spec_int64 B1 u ng l w1 hsi (by omega)
    rw [hnm, HM.out] at hS
    unfold S64Post at hS
    rw [if_neg HF.out, decide_eq_false HF.out] at hS
    have HS := Lib.hid hS
    have HB1 := Lib.hid (HB0.out.trans (hb1.mono HB0.out.size))
    have HK1 := Lib.hid (HK0.out.below hb1 HK0.out.lt)
    clear hS hsi hl hnm hb1
    go_wp2_with fail
    refine HS.out.mono ?_
    rintro e w2 ⟨rfl, hb2⟩
    have HB2 := Lib.hid (HB1.out.trans (hb2.mono HB1.out.size))
    have e0 : w2.cell? ⟨w.heap.size, 0, none⟩ = some (.int .i64 2) := ((HK1.out.below hb2 HK1.out.lt).cell 0).trans rfl
    clear hb2
    go_wp2
    go_ret2
    exact ⟨⟨0, by rw [HIX.out]; rfl, fun j hj => by rw [HIX.out] at hj; simp at hj⟩, HB2.out⟩
  · have HF : Hid (-9223372036854775808 ≤ (0 : Int) ∧ (0 : Int) ≤ 9223372036854775807) := ⟨by omega, by omega⟩
    have HIX := Lib.hid hix
    have dk : (kd == 2) = false := by simp [hk]
    clear hix hk
    go_enter Tryz.func61, Tryz.ntmps61
    go_wp2_with fail
    refine HN.out.mono ?_
    rintro e w1 ⟨u, B1, ng, l, rfl, hsi, hl, hnm, hb1⟩
    have hS := spec_int64 B1 u ng l w1 hsi (by omega)
    rw [hnm, HM.out] at hS
    unfold S64Post at hS
    rw [if_pos HF.out, decide_eq_true HF.out] at hS
    have HS := Lib.hid hS
    have HB1 := Lib.hid (HB0.out.trans (hb1.mono HB0.out.size))
    have HK1 := Lib.hid (HK0.out.below hb1 HK0.out.lt)
    clear hS hsi hl hnm hb1
    go_wp2_with fail
    refine HS.out.mono ?_
    rintro e w2 ⟨rfl, hb2⟩
    have HB2 := Lib.hid (HB1.out.trans (hb2.mono HB1.out.size))
    have e0 : w2.cell? ⟨w.heap.size, 0, none⟩ = some (.int .i64 kd) := ((HK1.out.below hb2 HK1.out.lt).cell 0).trans rfl
    clear hb2
    go_wp2
    go_ret2
    exact ⟨⟨0, by rw [HIX.out]; rfl, fun j hj => by rw [HIX.out] at hj; simp at hj⟩, HB2.out⟩
end Go.Proofs.YtmpfffcdpecadaaGreat
