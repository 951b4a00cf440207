/- The law's walk: the floor's remainder of two floats. -/
import Derived.Test.YtkddmiamdpbgiaaFltLaw
import Derived.Test.YtkddmiamdpbgiaaOwn
import Derived.Test.YtkddmiamdpbgiaaStr
import Derived.Deep.RegionHeld3
import Derived.Deep.DrawnRows
namespace Go.Proofs.Ytkddmiamdpbgiaa
open Go.RowKit
attribute [local go_sem ↓] Go.wp_at_zero Go.wp_at_succ
theorem float_of (n : Nat) (w : World) : Calls Try.prog 16 #[.int .u64 (n : Int)] w (FPost n w) := by
  go_enter Try.func16, Try.ntmps16
  go_wp2
  go_ret
  exact ⟨rfl, rfl⟩
theorem bits_of (n : Nat) (w : World) : Calls Try.prog 15 #[.float .f64 n] w fun e w' => e = .returned (.int .u64 (n : Int)) ∧ w = w' := by
  go_enter Try.func15, Try.ntmps15
  go_wp2
  go_ret
  exact ⟨rfl, rfl⟩
/-- What both remainders are: one number, or none. -/
def RemN (a b : Bool) (r s n : Nat) : Prop := (IsNan n ∨ ∃ c, ModRel s r c ∧ n = fmv a b c s) ∧ ((infR ≤ r ∨ infR < s) → IsNan n) ∧ (¬ (infR ≤ r ∨ infR < s) → ∃ c, ModRel s r c ∧ n = fmv a b c s)
def ImplPost (a b : Bool) (r s : Nat) (w : World) (e : Ending) (w' : World) : Prop := ∃ n : Nat, e = .returned (.int .u64 (n : Int)) ∧ RemN a b r s n ∧ ∃ q, w' = w.drewN q
theorem rem_two {a b : Bool} {r s n m : Nat} (h1 : RemN a b r s n) (h2 : RemN a b r s m) : n = m ∨ (IsNan n ∧ IsNan m) := by
  by_cases hb : infR ≤ r ∨ infR < s
  · exact .inr ⟨h1.2.1 hb, h2.2.1 hb⟩
  · obtain ⟨c, hc, e1⟩ := h1.2.2 hb
    obtain ⟨d, hd, e2⟩ := h2.2.2 hb
    have := hc.uniq hd
    subst this
    exact .inl (by rw [e1, e2])
theorem impl_mod (a b : Bool) (r s : Nat) (hr : r < S63) (h0 : 0 < s) (hs : s < S63) (w : World) : Calls Try.prog 6 #[.int .u64 ((FW a r : Nat) : Int), .int .u64 ((FW b s : Nat) : Int)] w (ImplPost a b r s w) := by
  have HM := Lib.hid (star_mod a b r s hr h0 hs)
  obtain ⟨x, hx⟩ : ∃ x, x = FW a r := ⟨_, rfl⟩
  obtain ⟨y, hy⟩ : ∃ y, y = FW b s := ⟨_, rfl⟩
  rw [← hx, ← hy] at HM
  rw [← hx, ← hy]
  clear hx hy hr h0 hs
  go_enter Try.func6, Try.ntmps6
  go_wp2_with fail
  refine (float_of x _).mono ?_
  unfold FPost
  rintro e w' ⟨rfl, rfl⟩
  go_wp2_with fail
  refine (float_of y _).mono ?_
  unfold FPost
  rintro e w' ⟨rfl, rfl⟩
  go_wp2_with fail
  refine (HM.out _).mono ?_
  rintro e w' ⟨n, rfl, hn1, hn2, hn3, q, rfl⟩
  have HN := Lib.hid (show RemN a b r s n from ⟨hn1, hn2, hn3⟩)
  clear hn1 hn2 hn3
  go_wp2_with fail
  refine (bits_of n _).mono ?_
  rintro e w' ⟨rfl, rfl⟩
  go_wp2
  go_ret
  exact ⟨n, rfl, HN.out, q, rfl⟩
theorem float_val (n : Nat) (w : World) : Calls Try.prog 9 #[.float .f64 n] w fun e w' => e = .returned (.agg #[.int .i64 3, .bool false, .slice none 0 0, .int .u64 (n : Int), .string ⟨#[]⟩, .slice none 0 0]) ∧ Below w.heap.size w w' := by
  go_enter Try.func9, Try.ntmps9
  go_wp2
  refine bodyPost_ret (v := .agg #[.int .i64 3, .bool false, .slice none 0 0, .int .u64 (n : Int), .string ⟨#[]⟩, .slice none 0 0]) (by simp [results, Try.results9, go_sem]) rfl ⟨rfl, ?_⟩
  exact (Below.refl _ _).alloc (Nat.le_refl _) _
theorem fl_any (n : Nat) (w : World) : Calls Try.prog 21 #[.agg #[.int .i64 3, .bool false, .slice none 0 0, .int .u64 (n : Int), .string ⟨#[]⟩, .slice none 0 0]] w fun e w' => e = .returned (.float .f64 n) ∧ Below w.heap.size w w' := by
  go_enter Try.func21, Try.ntmps21
  go_wp2
  go_ret
  exact ⟨rfl, (Below.refl _ _).alloc (Nat.le_refl _) _⟩
theorem below_box {w1 w2 : World} {o : Obj} {q : Nat} (hb : Below ((w1.alloc o).drewN q).heap.size ((w1.alloc o).drewN q) w2) : Below (w1.heap.size + 1) (w1.alloc o) w2 := by
  have hh : ((w1.alloc o).drewN q).heap = (w1.alloc o).heap := rfl
  have ho : ((w1.alloc o).drewN q).os = w1.os := rfl
  have ht : ((w1.alloc o).drewN q).tape = w1.tape := rfl
  have hp : ((w1.alloc o).drewN q).output = w1.output := rfl
  obtain ⟨X, hX⟩ : ∃ X, X = (w1.alloc o).drewN q := ⟨_, rfl⟩
  rw [← hX] at hb hh ho ht hp
  have hz : X.heap.size = w1.heap.size + 1 := by rw [hh]; simp
  refine ⟨hb.os.trans ho, hb.tape.trans ht, hb.output.trans hp, ?_, fun i hi => ?_⟩
  · have := hb.size; rw [hh] at this; exact this
  · have := hb.block i (by omega); rw [hh] at this; exact this
theorem box_end {w w1 w2 w3 : World} {o : Obj} (h1 : Below w.heap.size w w1) (h2 : Below (w1.heap.size + 1) (w1.alloc o) w2) (h3 : Below w2.heap.size w2 w3) : Below w.heap.size w w3 := by
  have hz : w1.heap.size + 1 ≤ w2.heap.size := by have := h2.size; simpa using this
  have h12 : Below w1.heap.size w1 w2 := ((Below.refl _ w1).alloc (Nat.le_refl _) _).trans (h2.mono (by omega))
  have h13 := h12.trans (h3.mono (by omega))
  exact h1.trans (h13.mono h1.size)
theorem box_size {w1 w2 : World} {o : Obj} (h2 : Below (w1.heap.size + 1) (w1.alloc o) w2) : w1.heap.size + 1 ≤ w2.heap.size := by
  have := h2.size; simpa using this
theorem box_six {w1 W : World} {t : TypeId} {a b c d e f : Value} (hb : Below (w1.heap.size + 1) (w1.alloc (.cells #[a, b, c, d, e, f] t)) W) :
    W.cell? ⟨w1.heap.size, 0, none⟩ = some a ∧ W.cell? ⟨w1.heap.size, 1, none⟩ = some b ∧ W.cell? ⟨w1.heap.size, 2, none⟩ = some c ∧ W.cell? ⟨w1.heap.size, 3, none⟩ = some d ∧ W.cell? ⟨w1.heap.size, 4, none⟩ = some e ∧ W.cell? ⟨w1.heap.size, 5, none⟩ = some f := by
  have h := Blk.below (w' := W) (Blk.new w1 t #[a, b, c, d, e, f]) hb (by omega)
  exact ⟨(h.cell 0).trans rfl, (h.cell 1).trans rfl, (h.cell 2).trans rfl, (h.cell 3).trans rfl, (h.cell 4).trans rfl, (h.cell 5).trans rfl⟩
theorem nan_order {n : Nat} (h : IsNan n) : (FloatKind.f64.format.order n n != some .eq) = true := by
  obtain ⟨a, r, rfl, h1, h2⟩ := h
  show (Ieee.double.order _ _ != _) = _
  rw [ord_nan h1 h2]; rfl
set_option maxRecDepth 20000 in
set_option maxHeartbeats 1000000 in
theorem same_any (n m : Nat) (h : n = m ∨ (IsNan n ∧ IsNan m)) (w : World) : Calls Try.prog 8 #[.agg #[.int .i64 3, .bool false, .slice none 0 0, .int .u64 (n : Int), .string ⟨#[]⟩, .slice none 0 0], .agg #[.int .i64 3, .bool false, .slice none 0 0, .int .u64 (m : Int), .string ⟨#[]⟩, .slice none 0 0]] w fun e w' => e = .returned (.bool true) ∧ Below w.heap.size w w' := by
  by_cases he : n = m
  · subst he
    have hb : ((n : Int) == (n : Int)) = true := by simp
    clear h
    go_enter Try.func8, Try.ntmps8
    go_wp2
    go_ret
    exact ⟨rfl, ((Below.refl _ _).alloc (Nat.le_refl _) _).alloc (by simp) _⟩
  · have hb : ((n : Int) == (m : Int)) = false := by rw [beq_eq_false_iff_ne]; omega
    obtain ⟨h1, h2⟩ : IsNan n ∧ IsNan m := by
      rcases h with h | h
      · exact absurd h he
      · exact h
    have HN := Lib.hid (isnan_any n true (nan_order h1))
    have HM := Lib.hid (isnan_any m true (nan_order h2))
    clear h h1 h2 he
    go_enter Try.func8, Try.ntmps8
    go_wp2_with fail
    refine (fl_any n _).mono ?_
    rintro e w1 ⟨rfl, hb1⟩
    obtain ⟨hc, hf⟩ := bcell hb1
    have HB1 := Lib.hid hb1
    clear hb1
    go_wp2_with fail
    refine (HN.out _).mono ?_
    unfold BPost
    rintro e w' ⟨rfl, rfl⟩
    go_wp2_with fail
    refine (fl_any m _).mono ?_
    rintro e w2 ⟨rfl, hb2⟩
    have HB2 := Lib.hid ((((Below.refl _ _).alloc (Nat.le_refl _) _).alloc (by simp) _).trans ((HB1.out.trans (hb2.mono HB1.out.size)).mono (by simp; omega)))
    clear hb2
    go_wp2_with fail
    refine (HM.out _).mono ?_
    unfold BPost
    rintro e w' ⟨rfl, rfl⟩
    go_wp2
    go_ret
    exact ⟨rfl, HB2.out⟩
set_option maxRecDepth 20000 in
set_option maxHeartbeats 1000000 in
theorem float_mod (x y : Int) (w : World) (hx : (Lit.int .u64 x).wf = true) (hy : (Lit.int .u64 y).wf = true) :
    Calls Try.prog 3 #[.int .u64 x, .int .u64 y] w fun e w' => e = .returned (.bool true) ∧ Below w.heap.size w w' := by
  have hS : S63 = 9223372036854775808 := rfl
  obtain ⟨n, rfl, hn⟩ : ∃ n : Nat, x = (n : Int) ∧ n < 2 * S63 := by
    simp [Lit.wf, IntKind.min, IntKind.max, IntKind.signed, IntKind.bits] at hx
    exact ⟨x.toNat, by omega, by omega⟩
  obtain ⟨m, rfl, hm⟩ : ∃ m : Nat, y = (m : Int) ∧ m < 2 * S63 := by
    simp [Lit.wf, IntKind.min, IntKind.max, IntKind.signed, IntKind.bits] at hy
    exact ⟨y.toNat, by omega, by omega⟩
  obtain ⟨a, r, rfl, hr⟩ := fw_cases n hn
  obtain ⟨b, s, rfl, hs⟩ := fw_cases m hm
  clear hx hy hn hm hS
  rcases Nat.eq_zero_or_pos s with hs0 | hs0
  · subst hs0
    have hz : (FloatKind.f64.format.order (FW b 0) 0 == some .eq) = true := by cases b <;> decide
    have hs0 : 0 < 4611686018427387904 := by omega
    have hs' : 4611686018427387904 < S63 := by decide
    have HI := Lib.hid (impl_mod a true r 4611686018427387904 hr hs0 hs')
    have HF := Lib.hid (floor_mod a true r 4611686018427387904 hr hs0 hs')
    obtain ⟨n, hn⟩ : ∃ n, n = FW a r := ⟨_, rfl⟩
    obtain ⟨m, hm⟩ : ∃ m, m = FW true 4611686018427387904 := ⟨_, rfl⟩
    rw [← hn] at HI HF
    rw [← hm] at HI HF
    have hm2 : m = 13835058055282163712 := by rw [hm]; decide
    obtain ⟨g, hg⟩ : ∃ g, g = FW b 0 := ⟨_, rfl⟩
    rw [← hg] at hz
    rw [← hn, ← hg]
    rw [hm2] at HI HF
    clear hn hm hm2 hg hr hs0 hs hs'
    go_enter Try.func3, Try.ntmps3
    go_wp2_with fail
    refine (HI.out _).mono ?_
    rintro e w1 ⟨u, rfl, hu, q, hq⟩
    have HU := Lib.hid hu
    have HB1 : Hid (Below w.heap.size w w1) := by rw [hq]; exact below_dn (Below.refl _ _) _
    clear hu hq
    go_wp2_with fail
    go_region_held3 (fun W => W.cell? ⟨w1.heap.size, 0, none⟩ = some (.int .i64 3) ∧ W.cell? ⟨w1.heap.size, 1, none⟩ = some (.bool false) ∧ W.cell? ⟨w1.heap.size, 2, none⟩ = some (.slice none 0 0) ∧ W.cell? ⟨w1.heap.size, 3, none⟩ = some (.int .u64 (u : Int)) ∧ W.cell? ⟨w1.heap.size, 4, none⟩ = some (.string ⟨#[]⟩) ∧ W.cell? ⟨w1.heap.size, 5, none⟩ = some (.slice none 0 0))
      (first | exact box_six C3.out | exact box_six C2.out | go_keep)
      (first
      | (go_at_call 10; refine (HF.out _).mono ?_; rintro e w' ⟨v, rfl, hv1, hv2, hv3, q2, rfl⟩; have HV := Lib.hid (show RemN a true r 4611686018427387904 v from ⟨hv1, hv2, hv3⟩); clear hv1 hv2 hv3)
      | (go_at_call 8; refine (same_any u v (rem_two HU.out HV.out) _).mono ?_; rintro e w3 ⟨rfl, hb3⟩; have HB3 := Lib.hid (box_end HB1.out C2.out hb3); have C3 := Lib.hid (C2.out.trans (hb3.mono (box_size C2.out))); clear hb3)
      | (go_at_call 9; refine (float_val _ _).mono ?_; rintro e w2 ⟨rfl, hb2⟩; have C2 := Lib.hid (below_box hb2); clear hb2))
    all_goals
      go_wp2
      go_ret
      exact ⟨rfl, HB3.out⟩
  · have hz := ord_nz (b := b) hs0 hs
    have hs' := hs
    have HI := Lib.hid (impl_mod a b r s hr hs0 hs')
    have HF := Lib.hid (floor_mod a b r s hr hs0 hs')
    obtain ⟨n, hn⟩ : ∃ n, n = FW a r := ⟨_, rfl⟩
    obtain ⟨m, hm⟩ : ∃ m, m = FW b s := ⟨_, rfl⟩
    rw [← hn] at HI HF
    rw [← hm] at HI HF
    rw [← hm] at hz
    rw [← hn, ← hm]
    clear hn hm hr hs0 hs hs'
    go_enter Try.func3, Try.ntmps3
    go_wp2_with fail
    refine (HI.out _).mono ?_
    rintro e w1 ⟨u, rfl, hu, q, hq⟩
    have HU := Lib.hid hu
    have HB1 : Hid (Below w.heap.size w w1) := by rw [hq]; exact below_dn (Below.refl _ _) _
    clear hu hq
    go_wp2_with fail
    go_region_held3 (fun W => W.cell? ⟨w1.heap.size, 0, none⟩ = some (.int .i64 3) ∧ W.cell? ⟨w1.heap.size, 1, none⟩ = some (.bool false) ∧ W.cell? ⟨w1.heap.size, 2, none⟩ = some (.slice none 0 0) ∧ W.cell? ⟨w1.heap.size, 3, none⟩ = some (.int .u64 (u : Int)) ∧ W.cell? ⟨w1.heap.size, 4, none⟩ = some (.string ⟨#[]⟩) ∧ W.cell? ⟨w1.heap.size, 5, none⟩ = some (.slice none 0 0))
      (first | exact box_six C3.out | exact box_six C2.out | go_keep)
      (first
      | (go_at_call 10; refine (HF.out _).mono ?_; rintro e w' ⟨v, rfl, hv1, hv2, hv3, q2, rfl⟩; have HV := Lib.hid (show RemN a b r s v from ⟨hv1, hv2, hv3⟩); clear hv1 hv2 hv3)
      | (go_at_call 8; refine (same_any u v (rem_two HU.out HV.out) _).mono ?_; rintro e w3 ⟨rfl, hb3⟩; have HB3 := Lib.hid (box_end HB1.out C2.out hb3); have C3 := Lib.hid (C2.out.trans (hb3.mono (box_size C2.out))); clear hb3)
      | (go_at_call 9; refine (float_val _ _).mono ?_; rintro e w2 ⟨rfl, hb2⟩; have C2 := Lib.hid (below_box hb2); clear hb2))
    all_goals
      go_wp2
      go_ret
      exact ⟨rfl, HB3.out⟩
end Go.Proofs.Ytkddmiamdpbgiaa
