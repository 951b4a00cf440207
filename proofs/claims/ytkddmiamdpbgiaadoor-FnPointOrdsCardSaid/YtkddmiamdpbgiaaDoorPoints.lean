/- The walk of the package's code points of a text, and of what the thin package makes of them. -/
import Derived.Test.YtkddmiamdpbgiaaDoorIntSmall
import Derived.Test.YtkddmiamdpbgiaaDoorValid
import Derived.Test.YtkddmiamdpbgiaaDoorOwn2
import Derived.IntWalk
namespace Go.Proofs.YtkddmiamdpbgiaaDoor
open Go.RowKit
/-- The runes from a place on (at most f of them). -/
def pts (s : ByteArray) : Nat → Nat → List Int
  | 0, _ => []
  | f + 1, pos => if pos < s.size then ((Utf8.decode s pos).1 : Int) :: pts s f (pos + (Utf8.decode s pos).2) else []
theorem pts_more {s : ByteArray} {f pos : Nat} (h : pos < s.size) (hf : s.size - pos ≤ f) :
    ∃ f', f = f' + 1 ∧ pts s f pos = ((Utf8.decode s pos).1 : Int) :: pts s f' (pos + (Utf8.decode s pos).2) ∧ s.size - (pos + (Utf8.decode s pos).2) ≤ f' := by
  have hw := Lib.decode_width_pos s pos h
  match f with
  | 0 => omega
  | f + 1 => exact ⟨f, rfl, by rw [pts, if_pos h], by omega⟩
theorem pts_end {s : ByteArray} {f pos : Nat} (h : ¬ pos < s.size) : pts s f pos = [] := by
  cases f with
  | zero => rfl
  | succ f => rw [pts, if_neg h]
theorem pts_len (s : ByteArray) : ∀ f pos, (pts s f pos).length ≤ f
  | 0, _ => by simp [pts]
  | f + 1, pos => by
    rw [pts]
    split
    · have := pts_len s f (pos + (Utf8.decode s pos).2)
      simp; omega
    · simp
theorem pts_bd (s : ByteArray) : ∀ f pos, ∀ x ∈ pts s f pos, 0 ≤ x ∧ x ≤ 2147483647
  | 0, _, x, hx => by simp [pts] at hx
  | f + 1, pos, x, hx => by
    rw [pts] at hx
    split at hx
    · simp only [List.mem_cons] at hx
      rcases hx with rfl | hx
      · have := decode_le s pos
        omega
      · exact pts_bd s f _ x hx
    · simp at hx
def runesOf (s : ByteArray) : List Int := pts s s.size 0
theorem width_le (s : ByteArray) (k : Nat) (hk : k < s.size) : k + (Utf8.decode s k).2 ≤ s.size := by
  rw [Lib.decode_N]
  have h := Lib.decodeN_le_n' (s.data.toList.length - k) (s.data.toList.getD k 0).toNat (s.data.toList.getD (k + 1) 0).toNat (s.data.toList.getD (k + 2) 0).toNat (s.data.toList.getD (k + 3) 0).toNat (by simp; omega)
  have hl : s.data.toList.length = s.size := by simp
  omega
/-- The iterator over the code points of s stands at a place; the variable that it fills holds x. -/
def ItAt (w : World) (s : ByteArray) (bi bv : Nat) (pos : Nat) (x : Value) : Prop :=
  Blk w bi 66 #[.string s, .bool true, .int .i64 pos] ∧ Blk w bv 59 #[x] ∧ bi ≠ bv
def TwoOf (a b : Nat) (k : Nat) : Prop := k = a ∨ k = b
def NextPost (s : ByteArray) (bi bv pos : Nat) (w : World) (e : Ending) (w' : World) : Prop :=
  e = .returned (.bool true) ∧ ItAt w' s bi bv (pos + (Utf8.decode s pos).2) (.iface 82 (.agg #[.int .i64 (Utf8.decode s pos).1, .pointer none])) ∧ Only (TwoOf bi bv) w w'
set_option maxRecDepth 20000 in
set_option maxHeartbeats 1600000 in
theorem next_any (s : ByteArray) (hs : s.size ≤ 1000) (bi bv pos : Nat) (x : Value) (w : World) (hp : pos < s.size) (hI : ItAt w s bi bv pos x) (hT : Tabs w) (h1 : 5 < bi) (h2 : 5 < bv) :
    Calls Tryd.prog 35 #[.pointer (some ⟨bi, 0, none⟩), .pointer (some ⟨bv, 0, none⟩)] w (NextPost s bi bv pos w) := by
  obtain ⟨k0, k1, hne⟩ := hI
  have HT := Lib.hid hT
  have K0 := Lib.hid k0
  have K1 := Lib.hid k1
  have HR := Lib.hid (rest_decode s pos)
  have hemp : (s.extract pos s.size).toList.isEmpty = false := emp_false (by simp; omega)
  have hsz0 : 0 < (s.extract pos s.size).size := by simp; omega
  have HS0 := Lib.hid hsz0
  have c0 := k0.cell 0
  have c1 := k0.cell 1
  have c2 := k0.cell 2
  simp only [List.getElem?_toArray, List.getElem?_cons_zero, List.getElem?_cons_succ] at c0 c1 c2
  clear k0 k1 hT hsz0
  go_enter Tryd.func35, Tryd.ntmps35
  go_wp2_with fail
  go_quiet (fail)
  go_wp2_with fail
  refine (decode_rest _ _ (tabs_below HT.out (below_dn (Below.refl _ _) _)) HS0.out).mono ?_
  rw [HR.out]
  rintro e w1 ⟨rfl, hb1⟩
  have hO1 : Only (TwoOf bi bv) w w1 := ((Only.refl _ w).drewN _).below hb1
  have k0 := (K0.out.drewN _).below hb1 K0.out.lt
  have k1 := (K1.out.drewN _).below hb1 K1.out.lt
  have K0' := Lib.hid k0
  have K1' := Lib.hid k1
  have c1 := k0.cell 1
  simp only [List.getElem?_toArray, List.getElem?_cons_zero, List.getElem?_cons_succ] at c1
  clear k0 k1 hb1 K0 K1 c0 c2
  obtain ⟨r, hr⟩ : ∃ r : Int, r = ((Utf8.decode s pos).1 : Int) := ⟨_, rfl⟩
  have hr1 : 0 ≤ r := by omega
  have hr2 : r ≤ 2147483647 := by have := decode_le s pos; omega
  have hw2 := width_le s pos hp
  rw [← hr]
  have HRR := Lib.hid hr
  clear hr
  go_wp2_with fail
  refine (make_int_small r _ (by omega) hr2).mono ?_
  rintro e w2 ⟨rfl, hb2⟩
  have hO2 : Only (TwoOf bi bv) w w2 := hO1.below hb2
  have k0 := K0'.out.below hb2 K0'.out.lt
  have k1 := K1'.out.below hb2 K1'.out.lt
  have d0 := k0.cell 0
  have d1 := k0.cell 1
  have d2 := k0.cell 2
  have d3 := k1.cell 0
  have f2 := k0.frozen 2
  have f3 := k1.frozen 0
  simp only [List.getElem?_toArray, List.getElem?_cons_zero, List.getElem?_cons_succ] at d0 d1 d2 d3
  have L0 := Lib.hid k0
  have L1 := Lib.hid k1
  clear k0 k1 hb2 hO1 K0' K1' c1
  have hne2 : ¬ bv = bi := fun e => hne e.symm
  go_wp2
  go_ret
  refine ⟨rfl, ⟨?_, ?_, hne⟩, ?_⟩
  · have h := (L0.out.far (p := ⟨bv, 0, none⟩) hne (.iface 82 (.agg #[.int .i64 r, .pointer none]))).put 2 (.int .i64 (pos + (Utf8.decode s pos).2 : Nat))
    simpa using h
  · rw [← HRR.out]
    have h := (L1.out.put 0 (.iface 82 (.agg #[.int .i64 r, .pointer none]))).far (p := ⟨bi, 2, none⟩) hne2 (.int .i64 (pos + (Utf8.decode s pos).2 : Nat))
    simpa using h
  · exact (hO2.setCell (p := ⟨bv, 0, none⟩) (.inl (.inr rfl)) _).setCell (p := ⟨bi, 2, none⟩) (.inl (.inl rfl)) _
end Go.Proofs.YtkddmiamdpbgiaaDoor
