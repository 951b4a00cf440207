/- The walk of laws.FnBytesSlice: a slice of bytes. -/
import Derived.Test.YtgajgjjcnahebaaSliceB
import Derived.Deep.DeepCutAuto
namespace Go.Proofs.Ytgajgjjcnahebaa
open Go.RowKit
theorem assert_bytes : ∀ (x : Value) (w : World), (Instr.typeAssert (.iface 43 x) 49 43 true).run Try.prog w = .ok (.tuple #[x, .bool true]) w := fun _ _ => by kernel_rfl
set_option maxHeartbeats 400000 in
theorem bytesSlice_any (s : ByteArray) (a t st : Int) (w : World) (hs : s.size ≤ 400) (h : OkB s.size a t st) :
    Calls Try.prog 15 #[.string s, .int .i64 a, .int .i64 t, .int .i64 st] w fun e w' => e = .returned (.string ⟨(strided s.data.toList a t st).toArray⟩) ∧ Below w.heap.size w w' := by
  have H : Hid (OkB s.size a t st) := h
  clear h
  have hta := assert_bytes
  go_enter Try.func15, Try.ntmps15
  go_wp2_with fail
  refine (bounded_yes _ _ _ _ _ H.out).mono ?_
  rintro e w' ⟨rfl, rfl⟩
  go_wp2_with fail
  refine (slice_any s _ _ _ _ hs H.out).mono ?_
  rintro e w' ⟨rfl, hb⟩
  go_wp2
  go_ret
  exact ⟨rfl, hb⟩
theorem strided_ab : strided (ByteArray.mk #[97, 98]).data.toList 1 (-1) (-1) = [98, 97] := by decide +kernel
theorem slice_ab (w : World) :
    Calls Try.prog 15 #[.string ⟨#[97, 98]⟩, .int .i64 1, .int .i64 (-1), .int .i64 (-1)] w fun e w' => e = .returned (.string ⟨#[98, 97]⟩) ∧ Below w.heap.size w w' := by
  have h := bytesSlice_any ⟨#[97, 98]⟩ 1 (-1) (-1) w (by decide) (by unfold OkB; decide)
  rw [strided_ab] at h
  exact h
set_option maxHeartbeats 800000 in
theorem bytesSlice_law (s : ByteArray) (a b c : Int) (w : World) (hs : s.size ≤ maxLen) (_ : (Lit.int .i64 a).wf = true) (_ : (Lit.int .i64 b).wf = true) (_ : (Lit.int .i64 c).wf = true) :
    Calls Try.prog 7 #[.string s, .int .i64 a, .int .i64 b, .int .i64 c] w fun e w' => e = .returned (.bool true) ∧ Below w.heap.size w w' := by
  unfold maxLen at hs
  by_cases h : 2147483647 < s.size
  · go_enter Try.func7, Try.ntmps7
    go_wp2
    go_ret
    exact ⟨rfl, Below.refl _ _⟩
  · go_enter Try.func7, Try.ntmps7
    go_upto_region 3 with fail
    go_cut [0] (fun s0 wx => ∃ t : ByteArray, s0 = .string t ∧ t.size ≤ 400 ∧ w = wx)
    case first =>
      by_cases h2 : 400 < s.size
      · go_wp2
        go_meet
        exact ⟨_, rfl, by simp; omega, rfl⟩
      · go_wp2
        go_meet
        exact ⟨_, rfl, by omega, rfl⟩
    case rest =>
      obtain ⟨s, rfl, hs2, rfl⟩ := hcut
      clear h hs
      go_wp2_with fail
      refine (ends_any _ _ _ _ _ (by omega) (by omega)).mono ?_
      rintro e w' ⟨x, y, z, hok, rfl, rfl⟩
      have Hok : Hid (OkB s.size x y z) := hok
      clear hok
      go_wp2_with fail
      refine (bytesSlice_any s _ _ _ _ hs2 Hok.out).mono ?_
      rintro e w1 ⟨rfl, hb1⟩
      go_wp2_with fail
      refine (taken_any s _ _ _ _ hs2 Hok.out).mono ?_
      generalize (strided s.data.toList x y z) = T
      rintro e w2 ⟨rfl, hb2⟩
      have hb := hb1.trans (hb2.mono hb1.size)
      clear hb1 hb2
      go_wp2_with fail
      refine (slice_ab _).mono ?_
      rintro e w3 ⟨rfl, hb3⟩
      have hbn := hb.trans (hb3.mono hb.size)
      clear hb hb3
      go_wp2
      go_ret
      exact ⟨rfl, hbn⟩
end Go.Proofs.Ytgajgjjcnahebaa
