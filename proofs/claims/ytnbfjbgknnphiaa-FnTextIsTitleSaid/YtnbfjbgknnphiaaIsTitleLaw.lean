/- The law's walk: istitle of a text below 128. -/
import Derived.Test.YtnbfjbgknnphiaaZzCall
namespace Go.Proofs.Ytnbfjbgknnphiaa
open Go.RowKit
set_option maxHeartbeats 1600000 in
theorem zz_call_istitle (name s : ByteArray) (hs : AsciiT s) (w : World) :
    Calls Try.prog 11 #[.string name, .func (.func 12) #[] #[], .string s, .slice none 0 0] w (TruthPost (titled s.data.toList false false) w) := by
  go_enter Try.func11, Try.ntmps11
  go_wp2_with fail
  refine (new_builtin name _ _).mono ?_
  rintro e w1 ⟨b, rfl, hB, hb⟩
  have HB := Lib.hid hB
  clear hB
  go_wp2_with fail
  refine (bind_recv name _ b s _ HB.out).mono ?_
  rintro e w2 ⟨b2, rfl, hB2, hb2⟩
  have HB2 := Lib.hid hB2
  have hbn := hb.trans (hb2.mono hb.size)
  clear hB2 HB hb hb2
  go_wp2_with fail
  refine (string_istitle s name _ b2 hs _ HB2.out).mono ?_
  rintro e w3 ⟨rfl, hb3⟩
  have hbn3 := hbn.trans (hb3.mono hbn.size)
  clear hbn hb3 HB2
  go_wp2
  go_ret2
  exact ⟨rfl, hbn3⟩
set_option maxHeartbeats 1600000 in
theorem zz_istitle (s : ByteArray) (hs : AsciiT s) (w : World) :
    Calls Try.prog 8 #[.string s] w (TruthPost (titled s.data.toList false false) w) := by
  go_enter Try.func8, Try.ntmps8
  go_wp2_with fail
  refine (zz_call_istitle _ s hs _).mono ?_
  rintro e w3 ⟨rfl, hb3⟩
  go_wp2
  go_ret2
  exact ⟨rfl, hb3⟩
@[go_sem] theorem Try.assertBool (v : Value) (w : World) : (Instr.typeAssert (.iface 35 v) 29 35 true).run Try.prog w = .ok (.tuple #[v, .bool true]) w := by kernel_rfl
set_option maxHeartbeats 1600000 in
theorem of_truth (b : Bool) (w : World) :
    Calls Try.prog 7 #[.iface 35 (.bool b), .nilIface] w fun e w' => e = .returned (.tuple #[.bool b, .bool true]) ∧ Below w.heap.size w w' := by
  cases b
  all_goals
    go_enter Try.func7, Try.ntmps7
    go_wp2_with fail
    go_quiet (fail)
    go_wp2
    go_ret2
    exact ⟨rfl, below_dn (Below.refl _ _) _⟩
set_option maxHeartbeats 1600000 in
theorem impl_istitle (s : ByteArray) (hs : AsciiT s) (w : World) :
    Calls Try.prog 5 #[.string s] w fun e w' => e = .returned (.tuple #[.bool (titled s.data.toList false false), .bool true]) ∧ Below w.heap.size w w' := by
  go_enter Try.func5, Try.ntmps5
  go_wp2_with fail
  refine (zz_istitle s hs _).mono ?_
  rintro e w3 ⟨rfl, hb3⟩
  go_wp2_with fail
  refine (of_truth _ _).mono ?_
  rintro e w4 ⟨rfl, hb4⟩
  have hbn := hb3.trans (hb4.mono hb3.size)
  clear hb3 hb4
  go_wp2
  go_ret2
  exact ⟨rfl, hbn⟩
set_option maxHeartbeats 1600000 in
theorem text_istitle (s : ByteArray) (w : World) (hs : s.size ≤ maxLen) :
    Calls Try.prog 3 #[.string s] w fun e w' => e = .returned (.bool true) ∧ Below w.heap.size w w' := by
  by_cases h : s.size ≤ 2147483647
  · have hd : decide ((2147483647 : Int) < (s.size : Int)) = false := by simp; omega
    go_enter Try.func3, Try.ntmps3
    go_wp2_with fail
    refine (ascii_any s hs _).mono ?_
    rintro e w1 ⟨t, rfl, ht, hb⟩
    go_wp2_with fail
    refine (impl_istitle t ht _).mono ?_
    obtain ⟨b, hbe⟩ : ∃ b, b = titled t.data.toList false false := ⟨_, rfl⟩
    rw [← hbe]
    rintro e w2 ⟨rfl, hb2⟩
    have HBE := Lib.hid hbe
    have hbn := hb.trans (hb2.mono hb.size)
    clear hbe hb hb2
    go_wp2_with fail
    refine (spec_titled t ht.1 _).mono ?_
    unfold TitledPost
    rw [← HBE.out]
    rintro e w3 ⟨rfl, rfl⟩
    cases b
    all_goals
      go_wp2
      go_ret
      exact ⟨rfl, hbn⟩
  · have hd : decide ((2147483647 : Int) < (s.size : Int)) = true := by simp; omega
    go_enter Try.func3, Try.ntmps3
    go_wp2
    go_ret
    exact ⟨rfl, Below.refl _ _⟩
end Go.Proofs.Ytnbfjbgknnphiaa
