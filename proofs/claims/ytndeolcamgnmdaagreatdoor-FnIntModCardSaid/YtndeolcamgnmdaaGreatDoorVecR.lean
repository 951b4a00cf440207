/- Sums and differences of words in a row, at any place of any block. -/
import Derived.Test.YtndeolcamgnmdaaGreatDoorWRow
import Derived.Test.YtndeolcamgnmdaaGreatDoorVec
set_option linter.unusedVariables false
set_option linter.unusedSimpArgs false
set_option linter.unnecessarySimpa false
namespace Go.Proofs.YtndeolcamgnmdaaGreatDoor
open Go.RowKit
/-- What a sum or a difference of words in a row leaves. -/
def VecRPost (g o n : Nat) (P : Nat → List Nat → Prop) (w : World) (e : Ending) (w' : World) : Prop :=
  ∃ (c : Nat) (rs : List Nat), e = .returned (.int .u64 (c : Int)) ∧ c ≤ 1 ∧ rs.length = n ∧ (∀ r ∈ rs, r < W64) ∧ P c rs ∧ WA w' g o rs ∧ Wr g o n w w'
set_option maxRecDepth 20000 in
set_option maxHeartbeats 2000000 in
theorem add_vv_rg (g o c gx ox gy oy n cz cx cy : Nat) (xs ys : List Nat) (w : World) (hr : RowB w g c) (hoc : o + n ≤ c) (hxl : xs.length = n) (hyl : ys.length = n) (hnb : n ≤ 100000) (hx : WA w gx ox xs) (hy : WA w gy oy ys) (okx : Ok g o gx ox n) (oky : Ok g o gy oy n) (hxb : ∀ x ∈ xs, x < W64) (hyb : ∀ y ∈ ys, y < W64) :
    Calls Tryz.prog 76 #[.slice (some ⟨g, o, none⟩) n cz, .slice (some ⟨gx, ox, none⟩) n cx, .slice (some ⟨gy, oy, none⟩) n cy] w (VecRPost g o n (fun c rs => valW rs + W64 ^ n * c = valW xs + valW ys) w) := by
  have HR := Lib.hid hr
  have HOC := Lib.hid hoc
  have HXL := Lib.hid hxl
  have HYL := Lib.hid hyl
  have HX := Lib.hid hx
  have HY := Lib.hid hy
  have OKX := Lib.hid okx
  have OKY := Lib.hid oky
  have HXB := Lib.hid hxb
  have HYB := Lib.hid hyb
  clear hr hoc hxl hyl hx hy okx oky hxb hyb
  go_enter Tryz.func76, Tryz.ntmps76
  go_wp2_with fail
  go_loopw [6, 25] (fun cv iv wr => ∃ (i c1 : Nat) (rs : List Nat), i ≤ n ∧ iv = .int .i64 (i : Int) ∧ cv = .int .u64 (c1 : Int) ∧ c1 ≤ 1 ∧ Hid (rs.length = i ∧ ∀ r ∈ rs, r < W64) ∧ Hid (valW rs + W64 ^ i * c1 = valW (xs.take i) + valW (ys.take i)) ∧ Hid (WA wr g o rs) ∧ Hid (Wr g o i w wr))
    (fun _ iv _ => n - (intOf iv).toNat)
  case atStart => exact ⟨0, 0, [], Nat.zero_le _, rfl, rfl, by omega, ⟨rfl, by simp⟩, by simp [Hid, valW], WA.nil _ _ _, Wr.refl _ _ _ _⟩
  case round =>
    obtain ⟨i, c1, rs, hi, rfl, rfl, hc, hrl, hval, hwa, hO⟩ := hrel
    by_cases hin : i < n
    · have hix : i < xs.length := by rw [HXL.out]; exact hin
      have hiy : i < ys.length := by rw [HYL.out]; exact hin
      obtain ⟨x, hxd⟩ : ∃ x, x = xs[i]'hix := ⟨_, rfl⟩
      obtain ⟨y, hyd⟩ : ∃ y, y = ys[i]'hiy := ⟨_, rfl⟩
      have cx0 := hO.out.cell (HX.out i hix) (OKX.out i hin)
      have cy0 := hO.out.cell (HY.out i hiy) (OKY.out i hin)
      rw [← hxd] at cx0
      rw [← hyd] at cy0
      have hx64 : x < W64 := by rw [hxd]; exact HXB.out _ (List.getElem_mem hix)
      have hy64 : y < W64 := by rw [hyd]; exact HYB.out _ (List.getElem_mem hiy)
      obtain ⟨s, hs⟩ : ∃ s, s = x + y + c1 := ⟨_, rfl⟩
      have HOP := Lib.hid (fun W => bits_add x y c1 hc W)
      rw [← hs] at HOP
      obtain ⟨r, hr⟩ : ∃ r, r = s % W64 := ⟨_, rfl⟩
      obtain ⟨d, hd⟩ : ∃ d, d = s / W64 := ⟨_, rfl⟩
      have hr64 : r < W64 := by rw [hr]; exact Nat.mod_lt _ W64_pos
      have hd1 : d ≤ 1 := by
        rw [hd]
        have : s / W64 < 2 := (Nat.div_lt_iff_lt_mul W64_pos).2 (by omega)
        omega
      have HST := Lib.hid (add_step (valW (xs.take i)) (valW (ys.take i)) (valW rs) i c1 x y s hval.out hs)
      rw [← hr, ← hd] at HOP HST
      clear hs hr hd
      have hrow := hO.out.rowB HR.out
      obtain ⟨u, hu⟩ := hrow.some (i := o + i) (by have := HOC.out; omega)
      have hfz := hrow.free (o + i)
      have HROW := Lib.hid hrow
      have HXD := Lib.hid hxd
      have HYD := Lib.hid hyd
      have hin' : (i : Int) < (n : Int) := by omega
      have hgr : g < wr.heap.size := hrow.lt
      have HR64 := Lib.hid hr64
      clear hxd hyd hval hx64 hy64 hr64 hrow
      go_wp2_with fail
      go_quiet ((go_at_call 77; exact quiet_l (HOP.out _)))
      go_wp2
      go_roundw
      case rel =>
        refine ⟨i + 1, d, rs ++ [r], by omega, by go_num, rfl, hd1, ⟨by simp [hrl.out.1], ?_⟩, ?_, ?_, ?_⟩
        · intro z hz
          rcases List.mem_append.1 hz with h | h
          · exact hrl.out.2 z h
          · simp at h; rw [h]; exact HR64.out
        · unfold Hid
          rw [List.take_succ_eq_append_getElem hix, List.take_succ_eq_append_getElem hiy, valW_append, valW_append, valW_append, List.length_take, List.length_take, Nat.min_eq_left (by omega), Nat.min_eq_left (by omega), hrl.out.1, ← HXD.out, ← HYD.out]
          simp only [valW, Nat.mul_zero, Nat.add_zero]
          exact HST.out
        · exact (hwa.out.hp rfl).put hrl.out.1 (HROW.out.hp rfl) (by have := HOC.out; omega)
        · exact ((hO.out.drewN _).mono (Nat.le_refl _) (by omega)).set (by omega) (by omega) _
      case measure => simp [intOf]; omega
    · obtain rfl : i = n := by omega
      go_wp2
      go_ret
      exact ⟨c1, rs, rfl, hc, hrl.out.1, hrl.out.2, by have := hval.out; rw [List.take_of_length_le (by have h1 := HXL.out; have h2 := HYL.out; omega), List.take_of_length_le (by have h1 := HXL.out; have h2 := HYL.out; omega)] at this; exact this, hwa.out, hO.out⟩
theorem add_vv_r (g o c gx ox gy oy n cz cx cy : Nat) (xs ys : List Nat) (w : World) (hr : RowB w g c) (hoc : o + n ≤ c) (hxl : xs.length = n) (hyl : ys.length = n) (hnb : n ≤ 100000) (hx : WA w gx ox xs) (hy : WA w gy oy ys) (okx : Ok g o gx ox n) (oky : Ok g o gy oy n) (hxb : ∀ x ∈ xs, x < W64) (hyb : ∀ y ∈ ys, y < W64) :
    Calls Tryz.prog 58 #[.slice (some ⟨g, o, none⟩) n cz, .slice (some ⟨gx, ox, none⟩) n cx, .slice (some ⟨gy, oy, none⟩) n cy] w (VecRPost g o n (fun c rs => valW rs + W64 ^ n * c = valW xs + valW ys) w) := by
  have HC := Lib.hid (add_vv_rg g o c gx ox gy oy n cz cx cy xs ys w hr hoc hxl hyl hnb hx hy okx oky hxb hyb)
  clear hr hoc hxl hyl hx hy okx oky hxb hyb
  go_enter Tryz.func58, Tryz.ntmps58
  go_wp2_with fail
  refine HC.out.mono ?_
  rintro e w' ⟨c1, rs, rfl, h1, h2, h3, h4, h5, h6⟩
  have HH := Lib.hid (And.intro h1 (And.intro h2 (And.intro h3 (And.intro h4 (And.intro h5 h6)))))
  clear h1 h2 h3 h4 h5 h6
  go_wp2
  go_ret
  exact ⟨c1, rs, rfl, HH.out⟩
set_option maxRecDepth 20000 in
set_option maxHeartbeats 2000000 in
theorem sub_vv_rg (g o c gx ox gy oy n cz cx cy : Nat) (xs ys : List Nat) (w : World) (hr : RowB w g c) (hoc : o + n ≤ c) (hxl : xs.length = n) (hyl : ys.length = n) (hnb : n ≤ 100000) (hx : WA w gx ox xs) (hy : WA w gy oy ys) (okx : Ok g o gx ox n) (oky : Ok g o gy oy n) (hxb : ∀ x ∈ xs, x < W64) (hyb : ∀ y ∈ ys, y < W64) :
    Calls Tryz.prog 78 #[.slice (some ⟨g, o, none⟩) n cz, .slice (some ⟨gx, ox, none⟩) n cx, .slice (some ⟨gy, oy, none⟩) n cy] w (VecRPost g o n (fun c rs => valW rs + valW ys = valW xs + W64 ^ n * c) w) := by
  have HR := Lib.hid hr
  have HOC := Lib.hid hoc
  have HXL := Lib.hid hxl
  have HYL := Lib.hid hyl
  have HX := Lib.hid hx
  have HY := Lib.hid hy
  have OKX := Lib.hid okx
  have OKY := Lib.hid oky
  have HXB := Lib.hid hxb
  have HYB := Lib.hid hyb
  clear hr hoc hxl hyl hx hy okx oky hxb hyb
  go_enter Tryz.func78, Tryz.ntmps78
  go_wp2_with fail
  go_loopw [6, 25] (fun cv iv wr => ∃ (i c1 : Nat) (rs : List Nat), i ≤ n ∧ iv = .int .i64 (i : Int) ∧ cv = .int .u64 (c1 : Int) ∧ c1 ≤ 1 ∧ Hid (rs.length = i ∧ ∀ r ∈ rs, r < W64) ∧ Hid (valW rs + valW (ys.take i) = valW (xs.take i) + W64 ^ i * c1) ∧ Hid (WA wr g o rs) ∧ Hid (Wr g o i w wr))
    (fun _ iv _ => n - (intOf iv).toNat)
  case atStart => exact ⟨0, 0, [], Nat.zero_le _, rfl, rfl, by omega, ⟨rfl, by simp⟩, by simp [Hid, valW], WA.nil _ _ _, Wr.refl _ _ _ _⟩
  case round =>
    obtain ⟨i, c1, rs, hi, rfl, rfl, hc, hrl, hval, hwa, hO⟩ := hrel
    by_cases hin : i < n
    · have hix : i < xs.length := by rw [HXL.out]; exact hin
      have hiy : i < ys.length := by rw [HYL.out]; exact hin
      obtain ⟨x, hxd⟩ : ∃ x, x = xs[i]'hix := ⟨_, rfl⟩
      obtain ⟨y, hyd⟩ : ∃ y, y = ys[i]'hiy := ⟨_, rfl⟩
      have cx0 := hO.out.cell (HX.out i hix) (OKX.out i hin)
      have cy0 := hO.out.cell (HY.out i hiy) (OKY.out i hin)
      rw [← hxd] at cx0
      rw [← hyd] at cy0
      have hx64 : x < W64 := by rw [hxd]; exact HXB.out _ (List.getElem_mem hix)
      have hy64 : y < W64 := by rw [hyd]; exact HYB.out _ (List.getElem_mem hiy)
      have HOP := Lib.hid (fun W => bits_sub x y c1 hx64 hy64 hc W)
      obtain ⟨r, hr⟩ : ∃ r, r = (x + W64 - y - c1) % W64 := ⟨_, rfl⟩
      obtain ⟨d, hd⟩ : ∃ d, d = bor x y c1 := ⟨_, rfl⟩
      have hr64 : r < W64 := by rw [hr]; exact Nat.mod_lt _ W64_pos
      have hd1 : d ≤ 1 := by rw [hd]; unfold bor; split <;> omega
      have HST := Lib.hid (sub_step (valW (xs.take i)) (valW (ys.take i)) (valW rs) i c1 x y hx64 hy64 hc hval.out)
      rw [← hr, ← hd] at HOP HST
      clear hr hd
      have hrow := hO.out.rowB HR.out
      obtain ⟨u, hu⟩ := hrow.some (i := o + i) (by have := HOC.out; omega)
      have hfz := hrow.free (o + i)
      have HROW := Lib.hid hrow
      have HXD := Lib.hid hxd
      have HYD := Lib.hid hyd
      have hin' : (i : Int) < (n : Int) := by omega
      have hgr : g < wr.heap.size := hrow.lt
      have HR64 := Lib.hid hr64
      clear hxd hyd hval hx64 hy64 hr64 hrow
      go_wp2_with fail
      go_quiet ((go_at_call 79; exact quiet_l (HOP.out _)))
      go_wp2
      go_roundw
      case rel =>
        refine ⟨i + 1, d, rs ++ [r], by omega, by go_num, rfl, hd1, ⟨by simp [hrl.out.1], ?_⟩, ?_, ?_, ?_⟩
        · intro z hz
          rcases List.mem_append.1 hz with h | h
          · exact hrl.out.2 z h
          · simp at h; rw [h]; exact HR64.out
        · unfold Hid
          rw [List.take_succ_eq_append_getElem hix, List.take_succ_eq_append_getElem hiy, valW_append, valW_append, valW_append, List.length_take, List.length_take, Nat.min_eq_left (by omega), Nat.min_eq_left (by omega), hrl.out.1, ← HXD.out, ← HYD.out]
          simp only [valW, Nat.mul_zero, Nat.add_zero]
          exact HST.out
        · exact (hwa.out.hp rfl).put hrl.out.1 (HROW.out.hp rfl) (by have := HOC.out; omega)
        · exact ((hO.out.drewN _).mono (Nat.le_refl _) (by omega)).set (by omega) (by omega) _
      case measure => simp [intOf]; omega
    · obtain rfl : i = n := by omega
      go_wp2
      go_ret
      exact ⟨c1, rs, rfl, hc, hrl.out.1, hrl.out.2, by have := hval.out; rw [List.take_of_length_le (by have h1 := HXL.out; have h2 := HYL.out; omega), List.take_of_length_le (by have h1 := HXL.out; have h2 := HYL.out; omega)] at this; exact this, hwa.out, hO.out⟩
theorem sub_vv_r (g o c gx ox gy oy n cz cx cy : Nat) (xs ys : List Nat) (w : World) (hr : RowB w g c) (hoc : o + n ≤ c) (hxl : xs.length = n) (hyl : ys.length = n) (hnb : n ≤ 100000) (hx : WA w gx ox xs) (hy : WA w gy oy ys) (okx : Ok g o gx ox n) (oky : Ok g o gy oy n) (hxb : ∀ x ∈ xs, x < W64) (hyb : ∀ y ∈ ys, y < W64) :
    Calls Tryz.prog 60 #[.slice (some ⟨g, o, none⟩) n cz, .slice (some ⟨gx, ox, none⟩) n cx, .slice (some ⟨gy, oy, none⟩) n cy] w (VecRPost g o n (fun c rs => valW rs + valW ys = valW xs + W64 ^ n * c) w) := by
  have HC := Lib.hid (sub_vv_rg g o c gx ox gy oy n cz cx cy xs ys w hr hoc hxl hyl hnb hx hy okx oky hxb hyb)
  clear hr hoc hxl hyl hx hy okx oky hxb hyb
  go_enter Tryz.func60, Tryz.ntmps60
  go_wp2_with fail
  refine HC.out.mono ?_
  rintro e w' ⟨c1, rs, rfl, h1, h2, h3, h4, h5, h6⟩
  have HH := Lib.hid (And.intro h1 (And.intro h2 (And.intro h3 (And.intro h4 (And.intro h5 h6)))))
  clear h1 h2 h3 h4 h5 h6
  go_wp2
  go_ret
  exact ⟨c1, rs, rfl, HH.out⟩
end Go.Proofs.YtndeolcamgnmdaaGreatDoor
