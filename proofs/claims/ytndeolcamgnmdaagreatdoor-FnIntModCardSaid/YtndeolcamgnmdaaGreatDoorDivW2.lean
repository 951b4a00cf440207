/- A natural divided by one word, and a word as a natural; copies of words at a place; what stays of the stack. -/
import Derived.Test.YtndeolcamgnmdaaGreatDoorDivW1
import Derived.Test.YtndeolcamgnmdaaGreatDoorStkEnd
import Derived.Test.YtndeolcamgnmdaaGreatDoorDivBas
set_option linter.unusedVariables false
set_option linter.unusedSimpArgs false
set_option linter.unnecessarySimpa false
namespace Go.Proofs.YtndeolcamgnmdaaGreatDoor
open Go.RowKit
theorem Wr.below {g o k B : Nat} {w w' : World} (h : Wr g o k w w') (hB : B ≤ g) (hw : B ≤ w.heap.size) : Below B w w' :=
  ⟨h.os, h.tape, h.output, h.size, fun b hb => h.block b (Nat.lt_of_lt_of_le hb hw) (fun e => by subst e; exact absurd hb (Nat.not_lt.2 hB))⟩
theorem wa_below {w w' : World} {B g o : Nat} {xs : List Nat} (h : WA w g o xs) (hb : Below B w w') (hg : g < B) : WA w' g o xs := fun j hj => (hb.cell (p := ⟨g, o + j, none⟩) hg).trans (h j hj)
theorem rowB_below {w w' : World} {B g c : Nat} (h : RowB w g c) (hb : Below B w w') (hg : g < B) : RowB w' g c := by
  obtain ⟨cur, h1, h2⟩ := h
  exact ⟨cur, (hb.block g hg).trans h1, h2⟩
theorem nat_nil0 (w : World) : (Instr.slice 58 (.slice none 0 0) none (some (.int .i64 0)) none).run Tryz.prog w = .ok (.slice none 0 0) w := by
  simp [Instr.slice, run_underlying Tryz.underlying58, Instr.sliceBounds, Instr.sliceBound, asIntOf, Tryz.sizeOf83]
def WordPost (x : Nat) (w : World) (e : Ending) (w' : World) : Prop := ∃ v ws, e = .returned v ∧ OW w' w.heap.size v ws ∧ valW ws = x ∧ TopNZ ws ∧ ws.length ≤ 1 ∧ Below w.heap.size w w'
theorem set_word (x : Nat) (hx : x < W64) (w : World) : Calls Tryz.prog 54 #[.slice none 0 0, .int .u64 (x : Int)] w (WordPost x w) := by
  by_cases h0 : x = 0
  · subst h0
    have hsl := nat_nil0 w
    rw [show ((0 : Nat) : Int) = 0 from rfl]
    go_enter Tryz.func54, Tryz.ntmps54
    go_wp2
    go_ret
    exact ⟨_, [], rfl, ow_nil _ _, rfl, by simp [TopNZ], by simp, Below.refl _ _⟩
  · have hd : ((x : Int) == 0) = false := by rw [beq_eq_false_iff_ne]; omega
    have HX := Lib.hid (And.intro hx h0)
    have HM := Lib.hid (nat_make 1 (by omega) w)
    rw [show ((1 : Nat) : Int) = 1 from rfl] at HM
    clear hx h0
    go_enter Tryz.func54, Tryz.ntmps54
    go_wp2_with fail
    refine HM.out.mono ?_
    rintro e w1 ⟨⟨v, rfl, how⟩, hb⟩
    rcases how.form with ⟨_, h⟩ | ⟨g, c, hv, hg, hgl, hc, hcm⟩
    · simp at h
    rw [List.length_replicate] at hv hc
    subst hv
    obtain ⟨u, hu⟩ := how.rowB.some (i := 0) (by omega)
    have hfz := how.free 0
    have HS := Lib.hid (how.store 0 x HX.out.1)
    have HB := Lib.hid (hb.setCell (p := ⟨g, 0, none⟩) hg (.int .u64 (x : Int)))
    clear how hb hg hc hcm
    go_wp2
    go_ret
    exact ⟨_, [x], rfl, HS.out, by simp [valW], by simp [TopNZ]; exact HX.out.2, by simp, HB.out⟩
theorem topNZ_lenb {a b : List Nat} (ht : TopNZ a) (h : valW a ≤ valW b) (hb : ∀ x ∈ b, x < W64) : a.length ≤ b.length := by
  by_cases h0 : a = []
  · subst h0; simp
  · obtain ⟨init, last, rfl⟩ : ∃ init last, a = init ++ [last] := ⟨a.dropLast, a.getLast h0, (List.dropLast_concat_getLast h0).symm⟩
    have hl0 : last ≠ 0 := by unfold TopNZ at ht; simpa using ht
    have h1 := valW_top init last hl0
    have h2 := valW_lt b hb
    have := (Nat.pow_lt_pow_iff_right (a := W64) (by unfold W64; omega)).1 (Nat.lt_of_le_of_lt h1 (Nat.lt_of_le_of_lt h h2))
    simp; omega
/-- What a natural divided by a word leaves. -/
def DivWPost (R : Nat) (w : World) (e : Ending) (w' : World) : Prop := ∃ v qs, e = .returned (.tuple #[v, .int .u64 (R : Int)]) ∧ OW w' w.heap.size v qs ∧ qs.length ≤ 1000 ∧ Below w.heap.size w w'
set_option maxRecDepth 20000 in
set_option maxHeartbeats 2000000 in
theorem div_w (B : Nat) (xv : Value) (xs : List Nat) (y : Nat) (w : World) (hx : OW w B xv xs) (hl : xs.length ≤ 1000) (hy : 0 < y) (hyW : y < W64) :
    Calls Tryz.prog 53 #[.slice none 0 0, xv, .int .u64 (y : Int)] w (DivWPost (valW xs % y) w) := by
  obtain ⟨a, cx, rfl⟩ := hx.shape
  obtain ⟨n, hn⟩ : ∃ n, n = xs.length := ⟨_, rfl⟩
  rw [← hn] at hx ⊢
  have hy0 : ((y : Int) == 0) = false := by rw [beq_eq_false_iff_ne]; omega
  have hsl := fun W => nat_nil0 W
  by_cases h1 : y = 1
  · subst h1
    have HS := Lib.hid (nat_set B _ xs w hx hl)
    have hr : valW xs % 1 = 0 := Nat.mod_one _
    rw [hr, show ((1 : Nat) : Int) = 1 from rfl]
    have HL := Lib.hid hl
    clear hx hl hn hr hy hyW
    go_enter Tryz.func53, Tryz.ntmps53
    go_wp2_with fail
    refine HS.out.mono ?_
    rintro e w1 ⟨v, rfl, how, hb⟩
    have HOW := Lib.hid how
    have HB := Lib.hid hb
    clear how hb
    go_wp2
    go_ret2
    exact ⟨v, xs, rfl, HOW.out, HL.out, HB.out⟩
  · have hd1 : ((y : Int) == 1) = false := by rw [beq_eq_false_iff_ne]; omega
    by_cases h0 : n = 0
    · subst h0
      obtain rfl : xs = [] := List.eq_nil_of_length_eq_zero hn.symm
      have hr : valW [] % y = 0 := Nat.zero_mod _
      rw [hr]
      clear hx hl hn hr hy hyW
      go_enter Tryz.func53, Tryz.ntmps53
      go_wp2
      go_ret2
      exact ⟨_, [], rfl, ow_nil _ _, by simp, Below.refl _ _⟩
    · have hd2 : ((n : Int) == 0) = false := by rw [beq_eq_false_iff_ne]; omega
      rcases hx.form with ⟨_, h⟩ | ⟨gx, cx', hv, hgx, hgxl, hcx, hcxm⟩
      · subst h; simp at hn; omega
      simp only [Value.slice.injEq] at hv
      obtain ⟨rfl, -, hcxe⟩ := hv
      have HX := Lib.hid hx
      have HN := Lib.hid hn
      have HM := Lib.hid (nat_make n (by omega) w)
      obtain ⟨R, hR⟩ : ∃ R, R = valW xs % y := ⟨_, rfl⟩
      rw [← hR]
      have HRR := Lib.hid hR
      have hnb : n ≤ 1000 := by omega
      have hn1 : 1 ≤ n := by omega
      clear hx hn hl hgx hcx hcxm h0 hcxe hR
      go_enter Tryz.func53, Tryz.ntmps53
      go_wp2_with fail
      refine HM.out.mono ?_
      rintro e w1 ⟨⟨v, rfl, how⟩, hb⟩
      rcases how.form with ⟨_, h⟩ | ⟨g, c, hv, hg, hgl, hc, hcm⟩
      · exfalso; have := congrArg List.length h; simp at this; omega
      rw [List.length_replicate] at hv hc
      subst hv
      have HD := Lib.hid (div_wvw g c gx n c cx y xs w1 how.rowB hc hn1 hnb HN.out.symm (HX.out.below hb).wa (by omega) HX.out.2 hy hyW)
      rw [← HRR.out] at HD
      have HB := Lib.hid hb
      have HR := Lib.hid how.rowB
      have HC := Lib.hid (And.intro hc hcm)
      have HG := Lib.hid hg
      clear how hb hc hcm hg hgl HM
      go_wp2_with fail
      refine HD.out.mono ?_
      rintro e w2 ⟨rs, rfl, hrl, hrW, hwa, hwr⟩
      have how2 : OW w2 w.heap.size (.slice (some ⟨g, 0, none⟩) n c) rs := ow_row (hwr.rowB HR.out) hwa hrl.symm HC.out.1 HC.out.2 HG.out hrW
      have HNM := Lib.hid (nat_norm w.heap.size _ rs (by omega) w2 how2)
      have HB2 := Lib.hid (HB.out.trans (hwr.below HG.out HB.out.size))
      have HRL := Lib.hid (And.intro hrl hrW)
      clear hrl hrW hwa hwr how2 HD
      go_wp2_with fail
      refine HNM.out.mono ?_
      rintro e w3 ⟨v3, l3, rfl, how3, hv3, ht3, rfl⟩
      have hl3 : l3.length ≤ 1000 := Nat.le_trans (topNZ_lenb ht3 (Nat.le_of_eq hv3) HRL.out.2) (by have := HRL.out.1; omega)
      have H3 := Lib.hid (And.intro how3 hl3)
      clear how3 hv3 ht3 hl3
      go_wp2
      go_ret2
      exact ⟨v3, l3, rfl, H3.out.1, H3.out.2, HB2.out⟩
theorem alias_nil (v : Value) (a : Option Addr) (n c : Nat) (hv : v = .slice a n c) (w : World) : Calls Tryz.prog 72 #[.slice none 0 0, v] w fun e w' => e = .returned (.bool false) ∧ ∃ k, w' = w.drewN k := by
  subst hv
  go_enter Tryz.func72, Tryz.ntmps72
  go_wp2_with fail
  go_quiet (fail)
  go_wp2
  go_ret
  exact ⟨rfl, _, rfl⟩
end Go.Proofs.YtndeolcamgnmdaaGreatDoor
