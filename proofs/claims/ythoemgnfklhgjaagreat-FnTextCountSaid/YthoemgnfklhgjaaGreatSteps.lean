/- Scalars of a law's arguments: an int of 32 bits, a text, nothing. -/
import Derived.Test.YthoemgnfklhgjaaGreatNum
import Derived.Test.YthoemgnfklhgjaaGreatIntLen
namespace Go.Proofs.YthoemgnfklhgjaaGreat
open Go.RowKit
attribute [local go_sem ↓] Go.wp_at_zero Go.wp_at_succ
inductive Sc where
  | none
  | int (n : Int)
  | str (t : ByteArray)
def pNone : Value := .agg #[.int .i64 0, .bool false, .slice none 0 0, .int .u64 0, .string ⟨#[]⟩, .slice none 0 0]
def pStr (t : ByteArray) : Value := .agg #[.int .i64 4, .bool false, .slice none 0 0, .int .u64 0, .string t, .slice none 0 0]
def PVal (w : World) (B : Nat) (v : Value) : Sc → Prop
  | .none => v = pNone
  | .int n => ∃ neg l, IVal w B v neg l ∧ intOf2 neg l = n
  | .str t => v = pStr t
def Sc.ok : Sc → Prop
  | .int n => -2147483648 ≤ n ∧ n ≤ 2147483647
  | _ => True
theorem PVal.below {w w' : World} {B : Nat} {v : Value} {s : Sc} (h : PVal w B v s) (hb : Below w.heap.size w w') : PVal w' B v s := by
  cases s with
  | none => exact h
  | int n => obtain ⟨neg, l, h1, h2⟩ := h; exact ⟨neg, l, h1.below hb, h2⟩
  | str t => exact h
theorem text_val (t : ByteArray) (w : World) :
    Calls Tryz.prog 8 #[.string t] w fun e w' => e = .returned (pStr t) ∧ Below w.heap.size w w' := by
  have HB := Lib.hid ((Below.refl w.heap.size w).alloc (Nat.le_refl _) (.cells #[.int .i64 4, .bool false, .slice none 0 0, .int .u64 0, .string t, .slice none 0 0] 26))
  go_enter Tryz.func8, Tryz.ntmps8
  go_wp2
  exact bodyPost_ret (v := pStr t) (by simp [results, Tryz.results8, go_sem, pStr]) rfl ⟨rfl, HB.out⟩
def StepsPost (w : World) (e : Ending) (w' : World) : Prop := ∃ v s, e = .returned v ∧ PVal w' w.heap.size v s ∧ s.ok ∧ (∀ t, s = .str t → t = ⟨#[]⟩) ∧ Below w.heap.size w w'
theorem steps_alloc (w : World) (k : Int) (neg : Bool) (a : Option Addr) (n c : Nat) (bits : Int) (tx : ByteArray) (ka : Option Addr) (kn kc : Nat) :
    Below w.heap.size w ((w.alloc (.cells #[.int .i64 k, .bool neg, .slice a n c, .int .u64 bits, .string tx, .slice ka kn kc] 26)).alloc (.cells #[.int .i64 0, .bool false, .slice none 0 0, .int .u64 0, .string ⟨#[]⟩, .slice none 0 0] 26)) :=
  ((Below.refl w.heap.size w).alloc (Nat.le_refl _) _).alloc (by simp) _
set_option maxRecDepth 100000 in
set_option maxHeartbeats 4000000 in
theorem steps_any (k : Int) (neg : Bool) (a : Option Addr) (n c : Nat) (bits : Int) (tx : ByteArray) (ka : Option Addr) (kn kc : Nat) (l : List Nat) (w : World) (hb : BSl w (.slice a n c) l) (hl : l.length ≤ 2147483647) :
    Calls Tryz.prog 6 #[pv k neg a n c bits tx ka kn kc] w (StepsPost w) := by
  have HB := Lib.hid (steps_alloc w k neg a n c bits tx ka kn kc)
  by_cases h2 : k = 2
  · subst h2
    have HN := Lib.hid (num_any 2 neg a n c bits tx ka kn kc l _ (hb.old HB.out) (by omega))
    have hsl := strip_le l
    have HSL : Hid ((strip l).length ≤ 2147483647) := by unfold Hid; omega
    have HK1 := Lib.hid (Blk.new_at (w.alloc (.cells #[.int .i64 2, .bool neg, .slice a n c, .int .u64 bits, .string tx, .slice ka kn kc] 26)) 26 #[.int .i64 0, .bool false, .slice none 0 0, .int .u64 0, .string ⟨#[]⟩, .slice none 0 0] (n := w.heap.size + 1) (by simp))
    clear hb hl hsl
    unfold pv
    go_enter Tryz.func6, Tryz.ntmps6
    go_wp2_with fail
    refine HN.out.mono ?_
    rintro e w1 ⟨v1, rfl, hs1, hb1⟩
    have HS1 := Lib.hid hs1
    have HB1 := Lib.hid (HB.out.trans (hb1.mono HB.out.size))
    have HK2 := Lib.hid (HK1.out.below hb1 (by simp))
    clear hs1 hb1
    go_wp2_with fail
    refine (spec_int64 _ v1 _ _ _ HS1.out (by have := HSL.out; omega)).mono ?_
    obtain ⟨x, hx⟩ : ∃ x, x = intOf2 (negOf neg l) (strip l) := ⟨_, rfl⟩
    unfold S64Post
    rw [← hx]
    obtain ⟨y, hy⟩ : ∃ y, y = (if -9223372036854775808 ≤ x ∧ x ≤ 9223372036854775807 then x else 0) := ⟨_, rfl⟩
    obtain ⟨f, hf⟩ : ∃ f, f = decide (-9223372036854775808 ≤ x ∧ x ≤ 9223372036854775807) := ⟨_, rfl⟩
    rw [← hy, ← hf]
    rintro e w2 ⟨rfl, hb2⟩
    obtain ⟨z, hz⟩ : ∃ z, z = IntKind.i32.wrap y := ⟨_, rfl⟩
    have hz2 : -2147483648 ≤ z ∧ z ≤ 2147483647 := by rw [hz, IntKind.wrap_i32]; omega
    have hz3 := hz.symm
    have HB2 := Lib.hid (HB1.out.trans (hb2.mono HB1.out.size))
    have HK3 := Lib.hid (HK2.out.below hb2 HK2.out.lt)
    clear hb2 hx hy hf hz
    go_wp2_with fail
    refine (small_any z (by unfold W64; omega) _).mono ?_
    rintro e w3 ⟨v3, n3, l3, rfl, hs3, _, hn3, hb3⟩
    have HS3 := Lib.hid hs3
    have HN3 := Lib.hid hn3
    have HB3 := Lib.hid (HB2.out.trans (hb3.mono HB2.out.size))
    have HK4 := Lib.hid (HK3.out.below hb3 HK3.out.lt)
    have hl3 := intOf2_len (sint_head hs3) hn3 (by omega) (by omega)
    have HL3 : Hid (l3.length ≤ 70368744177664) := by unfold Hid; omega
    clear hs3 hn3 hb3 hl3
    go_wp2_with fail
    refine (intval_any _ v3 n3 l3 _ HS3.out HL3.out).mono ?_
    rintro e w4 ⟨v4, rfl, hi4, hb4⟩
    obtain ⟨vs, hv4, ho4, hh4, hng4⟩ := hi4
    obtain ⟨g, cc, hvs, hg1, _, _, _⟩ := ho4.form
    obtain ⟨r, hr⟩ : ∃ r, r = l3.length := ⟨_, rfl⟩
    rw [← hr] at hvs
    subst hvs
    subst hv4
    have hB3 := HB3.out.size
    have hgg : w.heap.size + 1 + 1 ≤ g := by
      have h1 := HK4.out.lt
      omega
    obtain ⟨c0, c1, c2, c3, c4, c5, f0, f1, f2, f3, f4, f5⟩ := blk6 (HK4.out.below hb4 HK4.out.lt)
    have HO := Lib.hid ho4
    have HHD := Lib.hid hh4
    have HNG := Lib.hid hng4
    have HB4 := Lib.hid (HB3.out.trans (hb4.mono HB3.out.size))
    clear hb4 ho4 hh4 hng4 hr hg1 hz3
    go_wp2
    refine bodyPost_ret (v := .agg #[.int .i64 2, .bool n3, .slice (some ⟨g, 0, none⟩) r cc, .int .u64 0, .string ⟨#[]⟩, .slice none 0 0]) (by simp [results, Tryz.results6, go_sem, c0, c1, c2, c3, c4, c5]) rfl ⟨_, .int z, rfl, ⟨n3, l3, ⟨.slice (some ⟨g, 0, none⟩) r cc, rfl, ?_, HHD.out, HNG.out⟩, HN3.out⟩, hz2, fun t ht => (nomatch ht), ?_⟩
    · exact (HO.out.only (six_set w4 (w.heap.size + 1) (.int .i64 2) (.bool n3) (.slice (some ⟨g, 0, none⟩) r cc) (.int .u64 0) (.string ⟨#[]⟩) (.slice none 0 0)) (fun k hk e => by have := HK4.out.lt; omega)).base (by omega)
    · exact HB4.out.trans ((six_set w4 (w.heap.size + 1) (.int .i64 2) (.bool n3) (.slice (some ⟨g, 0, none⟩) r cc) (.int .u64 0) (.string ⟨#[]⟩) (.slice none 0 0)).to_below HB4.out.size (fun k _ e => by omega))
  · have h2b : (k == 2) = false := by rw [beq_eq_false_iff_ne]; exact h2
    by_cases h4 : k = 4
    · subst h4
      have HK1 := Lib.hid (Blk.new_at (w.alloc (.cells #[.int .i64 4, .bool neg, .slice a n c, .int .u64 bits, .string tx, .slice ka kn kc] 26)) 26 #[.int .i64 0, .bool false, .slice none 0 0, .int .u64 0, .string ⟨#[]⟩, .slice none 0 0] (n := w.heap.size + 1) (by simp))
      clear hb hl h2 h2b
      unfold pv
      go_enter Tryz.func6, Tryz.ntmps6
      go_wp2_with fail
      refine (text_val ⟨#[]⟩ _).mono ?_
      rintro e w1 ⟨rfl, hb1⟩
      have HB1 := Lib.hid (HB.out.trans (hb1.mono HB.out.size))
      obtain ⟨c0, c1, c2, c3, c4, c5, f0, f1, f2, f3, f4, f5⟩ := blk6 (HK1.out.below hb1 (by simp))
      clear hb1
      unfold pStr
      go_wp2
      refine bodyPost_ret (v := pStr ⟨#[]⟩) (by simp [results, Tryz.results6, go_sem, pStr, c0, c1, c2, c3, c4, c5]) rfl ⟨_, .str ⟨#[]⟩, rfl, rfl, trivial, fun t ht => by cases ht; rfl, ?_⟩
      exact HB1.out.trans ((six_set w1 (w.heap.size + 1) (.int .i64 4) (.bool false) (.slice none 0 0) (.int .u64 0) (.string ⟨#[]⟩) (.slice none 0 0)).to_below HB1.out.size (fun k _ e => by omega))
    · have h4b : (k == 4) = false := by rw [beq_eq_false_iff_ne]; exact h4
      clear hb hl h2 h4
      unfold pv
      go_enter Tryz.func6, Tryz.ntmps6
      go_wp2
      exact bodyPost_ret (v := pNone) (by simp [results, Tryz.results6, go_sem, pNone]) rfl ⟨_, .none, rfl, rfl, trivial, fun t ht => (nomatch ht), HB.out⟩
end Go.Proofs.YthoemgnfklhgjaaGreat
