/- The loops below laws.FnBytesSlice: what the package's slice gives and what the reference takes are the same bytes. -/
import Derived.Test.YtgajgjjcnahebaaSliceA
import Derived.Test.YtgajgjjcnahebaaOwn
import Derived.LoopTactic
namespace Go.Proofs.Ytgajgjjcnahebaa
open Go.RowKit
theorem Try.info5 : (Try.prog.info? 5).map (fun i => (i.zero, i.size, i.bytes)) = some (some (.int .u8 0), 1, 1) := by kernel_rfl
/-- What the loop has behind some rounds: the bytes gathered, and those to come. -/
def Gath (s : ByteArray) (w : World) (t st i T : Int) (v : Value) (wr : World) : Prop :=
  ∃ (acc : List UInt8) (f : Nat), acc ++ str s.data.toList t st f i = strided s.data.toList T t st ∧ Room t st i f ∧ OwnB 5 wr w.heap.size v acc ∧ Below w.heap.size w wr
theorem gath_len {s : ByteArray} {T t st i : Int} {acc : List UInt8} {f : Nat} (h : acc ++ str s.data.toList t st f i = strided s.data.toList T t st) : acc.length ≤ 401 := by
  have h1 := congrArg List.length h
  have h2 := str_len s.data.toList t st 401 T
  unfold strided at h1
  rw [List.length_append] at h1
  omega
set_option maxHeartbeats 800000 in
theorem taken_any (s : ByteArray) (a t st : Int) (w : World) (hs : s.size ≤ 400) (h : OkB s.size a t st) :
    Calls Try.prog 16 #[.string s, .int .i64 a, .int .i64 t, .int .i64 st] w fun e w' => e = .returned (.string ⟨(strided s.data.toList a t st).toArray⟩) ∧ Below w.heap.size w w' := by
  obtain ⟨i0, hi, hz0, hz1, hz2⟩ := info_parts Try.info5
  have H : Hid (OkB s.size a t st) := h
  unfold OkB at h
  rcases h with ⟨h1, h2, h3, h4, h5⟩ | ⟨h1, h2, h3, h4, h5⟩
  · go_enter Try.func16, Try.ntmps16
    go_wp2
    go_loopw [9, 10] (fun v i wr => ∃ x : Int, a ≤ x ∧ x ≤ s.size + 5 ∧ i = .int .i64 x ∧ Gath s w t st x a v wr) (fun _ i _ => (t - intOf i).toNat)
    case atStart => exact ⟨a, Int.le_refl _, by omega, rfl, [], 401, rfl, ⟨fun _ => by omega, fun _ => by omega⟩, OwnB.nil _ _, Below.refl _ _⟩
    case round =>
      obtain ⟨x, hx, hx5, rfl, acc, f, hT, hR, hown, hb⟩ := hrel
      by_cases hlt : x < t
      · obtain ⟨f', rfl, hstr, hR'⟩ := str_more (l := s.data.toList) (.inl ⟨by omega, hlt⟩) hR
        have hx0 : 0 ≤ x := by omega
        have hxs : x < s.size := by omega
        have hxn : x.toNat < s.size := by omega
        have hl := gath_len hT
        have hz := hb.size
        have hg : s.data.toList.getD x.toNat 0 = s[x.toNat] := by simp [hxn]; rfl
        rw [hstr, hg, ← List.singleton_append, ← List.append_assoc] at hT
        have HT := Lib.hid hT
        have HR := Lib.hid hR'
        clear hT hstr hR hR' hg
        go_wp2_with (at_builtin; refine wpList_append_one rfl (.tmp 31) (.tmp 35) 51 rfl _ w.heap.size 5 i0 _ 1 Try.underlying51 hi hz0 hz1 hz2 rfl _ acc.length _ hown rfl (.int .u8 (s[x.toNat].toNat : Int)) rfl rfl rfl (by unfold maxLen; omega) (by omega) hz ?_)
        intro v' w' hown' hb'
        clear hown hl hz
        have hbn := hb.trans hb'
        clear hb hb'
        go_wp2
        go_roundw
        case rel => exact ⟨x + st, by omega, by omega, rfl, acc ++ [s[x.toNat]], f', HT.out, HR.out, OwnB.more hown', hbn⟩
        case measure => simp [intOf]; omega
      · have hstr := str_end (l := s.data.toList) (e := t) (st := st) (i := x) (f := f) (by omega)
        rw [hstr, List.append_nil] at hT
        have hconv := hown.text 51 9 Try.underlying51 Try.underlying5 Try.underlying9
        have HT := Lib.hid hT
        clear hT hstr hR hown
        go_wp2
        go_ret
        exact ⟨by rw [← HT.out]; rfl, hb⟩
  · go_enter Try.func16, Try.ntmps16
    go_wp2
    go_loopw [9, 10] (fun v i wr => ∃ x : Int, x ≤ a ∧ -5 ≤ x ∧ i = .int .i64 x ∧ Gath s w t st x a v wr) (fun _ i _ => (intOf i - t).toNat)
    case atStart => exact ⟨a, Int.le_refl _, by omega, rfl, [], 401, rfl, ⟨fun _ => by omega, fun _ => by omega⟩, OwnB.nil _ _, Below.refl _ _⟩
    case round =>
      obtain ⟨x, hx, hx5, rfl, acc, f, hT, hR, hown, hb⟩ := hrel
      by_cases hlt : t < x
      · obtain ⟨f', rfl, hstr, hR'⟩ := str_more (l := s.data.toList) (.inr ⟨by omega, hlt⟩) hR
        have hx0 : 0 ≤ x := by omega
        have hxs : x < s.size := by omega
        have hxn : x.toNat < s.size := by omega
        have hl := gath_len hT
        have hz := hb.size
        have hg : s.data.toList.getD x.toNat 0 = s[x.toNat] := by simp [hxn]; rfl
        rw [hstr, hg, ← List.singleton_append, ← List.append_assoc] at hT
        have HT := Lib.hid hT
        have HR := Lib.hid hR'
        clear hT hstr hR hR' hg
        go_wp2_with (at_builtin; refine wpList_append_one rfl (.tmp 31) (.tmp 35) 51 rfl _ w.heap.size 5 i0 _ 1 Try.underlying51 hi hz0 hz1 hz2 rfl _ acc.length _ hown rfl (.int .u8 (s[x.toNat].toNat : Int)) rfl rfl rfl (by unfold maxLen; omega) (by omega) hz ?_)
        intro v' w' hown' hb'
        clear hown hl hz
        have hbn := hb.trans hb'
        clear hb hb'
        go_wp2
        go_roundw
        case rel => exact ⟨x + st, by omega, by omega, rfl, acc ++ [s[x.toNat]], f', HT.out, HR.out, OwnB.more hown', hbn⟩
        case measure => simp [intOf]; omega
      · have hstr := str_end (l := s.data.toList) (e := t) (st := st) (i := x) (f := f) (by omega)
        rw [hstr, List.append_nil] at hT
        have hconv := hown.text 51 9 Try.underlying51 Try.underlying5 Try.underlying9
        have HT := Lib.hid hT
        clear hT hstr hR hown
        go_wp2
        go_ret
        exact ⟨by rw [← HT.out]; rfl, hb⟩
set_option maxHeartbeats 1600000 in
theorem slice_any (s : ByteArray) (a t st : Int) (w : World) (hs : s.size ≤ 400) (h : OkB s.size a t st) :
    Calls Try.prog 25 #[.string s, .int .i64 a, .int .i64 t, .int .i64 st] w fun e w' => e = .returned (.iface 43 (.string ⟨(strided s.data.toList a t st).toArray⟩)) ∧ Below w.heap.size w w' := by
  obtain ⟨i0, hi, hz0, hz1, hz2⟩ := info_parts Try.info5
  have H : Hid (OkB s.size a t st) := h
  unfold OkB at h
  rcases h with ⟨h1, h2, h3, h4, h5⟩ | ⟨h1, h2, h3, h4, h5⟩
  · by_cases h1' : st = 1
    · subst h1'
      obtain ⟨a, rfl⟩ := Int.eq_ofNat_of_zero_le h3
      obtain ⟨t, rfl⟩ := Int.eq_ofNat_of_zero_le (show 0 ≤ t by omega)
      have HE := Lib.hid (strided_one s a t (by omega) (by omega) hs)
      go_enter Try.func25, Try.ntmps25
      go_wp2
      go_ret
      exact ⟨by rw [← HE.out]; rfl, Below.refl _ _⟩
    · have h1 : 2 ≤ st := by omega
      clear h1'
      have hst : (st == 1) = false := by simp; omega
      have hsg := Lib.hid (sgn_pos (show 0 < st by omega))
      go_enter Try.func25, Try.ntmps25
      go_wp2_with fail
      refine (signum_any _ _ (by omega) (by omega)).mono ?_
      rintro e w' ⟨rfl, rfl⟩
      rw [hsg.out]
      go_wp2_with fail
      go_loopw [10, 11] (fun v i wr => ∃ x : Int, a ≤ x ∧ x ≤ s.size + 5 ∧ i = .int .i64 x ∧ Gath s w t st x a v wr) (fun _ i _ => (t - intOf i).toNat)
      case atStart => exact ⟨a, Int.le_refl _, by omega, rfl, [], 401, rfl, ⟨fun _ => by omega, fun _ => by omega⟩, OwnB.nil _ _, Below.refl _ _⟩
      case round =>
        obtain ⟨x, hx, hx5, rfl, acc, f, hT, hR, hown, hb⟩ := hrel
        by_cases hlt : x < t
        · obtain ⟨f', rfl, hstr, hR'⟩ := str_more (l := s.data.toList) (.inl ⟨by omega, hlt⟩) hR
          have hx0 : 0 ≤ x := by omega
          have hxs : x < s.size := by omega
          have hxn : x.toNat < s.size := by omega
          have hl := gath_len hT
          have hz := hb.size
          have hg : s.data.toList.getD x.toNat 0 = s[x.toNat] := by simp [hxn]; rfl
          rw [hstr, hg, ← List.singleton_append, ← List.append_assoc] at hT
          have HT := Lib.hid hT
          have HR := Lib.hid hR'
          have HS := Lib.hid (sgn_pos (show 0 < t - x by omega))
          clear hT hstr hR hR' hg
          go_wp2_with fail
          refine (signum_any _ _ (by omega) (by omega)).mono ?_
          rintro e w' ⟨rfl, rfl⟩
          rw [HS.out]
          go_wp2_with (at_builtin; refine wpList_append_one rfl (.tmp 31) (.tmp 35) 51 rfl _ w.heap.size 5 i0 _ 1 Try.underlying51 hi hz0 hz1 hz2 rfl _ acc.length _ hown rfl (.int .u8 (s[x.toNat].toNat : Int)) rfl rfl rfl (by unfold maxLen; omega) (by omega) hz ?_)
          intro v' w' hown' hb'
          clear hown hl hz
          have hbn := hb.trans hb'
          clear hb hb'
          go_wp2
          go_roundw
          case rel => exact ⟨x + st, by omega, by omega, rfl, acc ++ [s[x.toNat]], f', HT.out, HR.out, OwnB.more hown', hbn⟩
          case measure => simp [intOf]; omega
        · have hstr := str_end (l := s.data.toList) (e := t) (st := st) (i := x) (f := f) (by omega)
          rw [hstr, List.append_nil] at hT
          have hconv := hown.text 51 43 Try.underlying51 Try.underlying5 Try.underlying43
          have HT := Lib.hid hT
          have hS : (sgn (t - x) == 1) = false := by
            rcases (show t - x = 0 ∨ t - x < 0 by omega) with h | h
            · rw [h, sgn_zero]; decide
            · rw [sgn_neg h]; decide
          have hd1 : -1000 ≤ t - x := by omega
          have hd2 : t - x ≤ 1000 := by omega
          clear hT hstr hR hown
          go_wp2_with fail
          refine (signum_any _ _ hd1 hd2).mono ?_
          rintro e w' ⟨rfl, rfl⟩
          go_wp2
          go_ret
          exact ⟨by rw [← HT.out]; rfl, hb⟩
  · have hst : (st == 1) = false := by simp; omega
    have hsg := Lib.hid (sgn_neg (show st < 0 by omega))
    go_enter Try.func25, Try.ntmps25
    go_wp2_with fail
    refine (signum_any _ _ (by omega) (by omega)).mono ?_
    rintro e w' ⟨rfl, rfl⟩
    rw [hsg.out]
    go_wp2_with fail
    go_loopw [10, 11] (fun v i wr => ∃ x : Int, x ≤ a ∧ -5 ≤ x ∧ i = .int .i64 x ∧ Gath s w t st x a v wr) (fun _ i _ => (intOf i - t).toNat)
    case atStart => exact ⟨a, Int.le_refl _, by omega, rfl, [], 401, rfl, ⟨fun _ => by omega, fun _ => by omega⟩, OwnB.nil _ _, Below.refl _ _⟩
    case round =>
      obtain ⟨x, hx, hx5, rfl, acc, f, hT, hR, hown, hb⟩ := hrel
      by_cases hlt : t < x
      · obtain ⟨f', rfl, hstr, hR'⟩ := str_more (l := s.data.toList) (.inr ⟨by omega, hlt⟩) hR
        have hx0 : 0 ≤ x := by omega
        have hxs : x < s.size := by omega
        have hxn : x.toNat < s.size := by omega
        have hl := gath_len hT
        have hz := hb.size
        have hg : s.data.toList.getD x.toNat 0 = s[x.toNat] := by simp [hxn]; rfl
        rw [hstr, hg, ← List.singleton_append, ← List.append_assoc] at hT
        have HT := Lib.hid hT
        have HR := Lib.hid hR'
        have HS := Lib.hid (sgn_neg (show t - x < 0 by omega))
        clear hT hstr hR hR' hg
        go_wp2_with fail
        refine (signum_any _ _ (by omega) (by omega)).mono ?_
        rintro e w' ⟨rfl, rfl⟩
        rw [HS.out]
        go_wp2_with (at_builtin; refine wpList_append_one rfl (.tmp 31) (.tmp 35) 51 rfl _ w.heap.size 5 i0 _ 1 Try.underlying51 hi hz0 hz1 hz2 rfl _ acc.length _ hown rfl (.int .u8 (s[x.toNat].toNat : Int)) rfl rfl rfl (by unfold maxLen; omega) (by omega) hz ?_)
        intro v' w' hown' hb'
        clear hown hl hz
        have hbn := hb.trans hb'
        clear hb hb'
        go_wp2
        go_roundw
        case rel => exact ⟨x + st, by omega, by omega, rfl, acc ++ [s[x.toNat]], f', HT.out, HR.out, OwnB.more hown', hbn⟩
        case measure => simp [intOf]; omega
      · have hstr := str_end (l := s.data.toList) (e := t) (st := st) (i := x) (f := f) (by omega)
        rw [hstr, List.append_nil] at hT
        have hconv := hown.text 51 43 Try.underlying51 Try.underlying5 Try.underlying43
        have HT := Lib.hid hT
        have hS : (sgn (t - x) == (-1)) = false := by
          rcases (show t - x = 0 ∨ 0 < t - x by omega) with h | h
          · rw [h, sgn_zero]; decide
          · rw [sgn_pos h]; decide
        have hd1 : -1000 ≤ t - x := by omega
        have hd2 : t - x ≤ 1000 := by omega
        clear hT hstr hR hown
        go_wp2_with fail
        refine (signum_any _ _ hd1 hd2).mono ?_
        rintro e w' ⟨rfl, rfl⟩
        go_wp2
        go_ret
        exact ⟨by rw [← HT.out]; rfl, hb⟩
end Go.Proofs.Ytgajgjjcnahebaa
