/- Words in a row multiplied by a word, at any place of any block. -/
import Derived.Test.YtndeolcamgnmdaaGreatDoorWRow
import Derived.Test.YtndeolcamgnmdaaGreatDoorDivWW
set_option linter.unusedVariables false
set_option linter.unusedSimpArgs false
set_option linter.unnecessarySimpa false
namespace Go.Proofs.YtndeolcamgnmdaaGreatDoor
open Go.RowKit
theorem mw_alg (B p c hi lo s cc l2 : Nat) (h1 : B * hi + lo = p) (h2 : s = lo + c) (h3 : B * cc + l2 = s) : B * (hi + cc) + l2 = p + c := by grind
theorem mul_add_w (x y c : Nat) (hx : x < W64) (hy : y < W64) (hc : c < W64) (w : World) :
    Calls Tryz.prog 110 #[.int .u64 (x : Int), .int .u64 (y : Int), .int .u64 (c : Int)] w fun e w' => e = .returned (.tuple #[.int .u64 (((x * y + c) / W64 : Nat) : Int), .int .u64 (((x * y + c) % W64 : Nat) : Int)]) ∧ w = w' := by
  have hWp := W64_pos
  have HM := Lib.hid (fun W => bits_mul_w x y hx hy W)
  obtain ⟨hi, hhi⟩ : ∃ hi, hi = x * y / W64 := ⟨_, rfl⟩
  obtain ⟨lo, hlo⟩ : ∃ lo, lo = x * y % W64 := ⟨_, rfl⟩
  rw [← hhi, ← hlo] at HM
  have HA := Lib.hid (fun W => bits_add lo c 0 (by omega) W)
  obtain ⟨l2, hl2⟩ : ∃ l2, l2 = (lo + c + 0) % W64 := ⟨_, rfl⟩
  obtain ⟨cc, hcc⟩ : ∃ cc, cc = (lo + c + 0) / W64 := ⟨_, rfl⟩
  rw [← hl2, ← hcc, show ((0 : Nat) : Int) = 0 from rfl] at HA
  have e1 := Nat.div_add_mod (x * y) W64
  have e2 := Nat.div_add_mod (lo + c + 0) W64
  rw [← hhi, ← hlo] at e1
  rw [← hcc, ← hl2] at e2
  have e3 := mw_alg W64 (x * y) c hi lo (lo + c + 0) cc l2 e1 rfl e2
  have hl2W : l2 < W64 := by rw [hl2]; exact Nat.mod_lt _ hWp
  obtain ⟨e4, e5⟩ := div_of (t := x * y + c) (q := hi + cc) (y := W64) (r := l2) (by rw [← e3, Nat.mul_comm]) hl2W
  have hsm : hi + cc < W64 := by
    rw [← e4, Nat.div_lt_iff_lt_mul hWp]
    have h1 : x * y ≤ x * W64 := Nat.mul_le_mul_left _ (by omega)
    have h2 : (x + 1) * W64 ≤ W64 * W64 := Nat.mul_le_mul_right _ hx
    rw [Nat.add_mul] at h2
    omega
  rw [e4, e5]
  obtain ⟨H, hH⟩ : ∃ H : Nat, (hi : Int) + (cc : Int) = (H : Int) ∧ H = hi + cc := ⟨hi + cc, by omega, rfl⟩
  have hH1 := hH.1
  rw [← hH.2]
  have hwH : IntKind.u64.wrap (H : Int) = (H : Int) := by
    unfold W64 at hsm
    exact wrap64_small _ (by omega) (by omega)
  clear hH e1 e2 e3 e4 e5 hl2 hcc hhi hlo
  go_enter Tryz.func110, Tryz.ntmps110
  go_wp2_with fail
  refine (HM.out _).mono ?_
  rintro e w' ⟨rfl, rfl⟩
  go_wp2_with fail
  refine (HA.out _).mono ?_
  rintro e w' ⟨rfl, rfl⟩
  go_wp2
  go_ret2
  exact ⟨rfl, rfl⟩
theorem mv_step (V P c X x y r l2 hi p B : Nat) (h : V + P * c = X * y + r) (h2 : B * hi + l2 = x * y + c) : (V + P * l2) + P * B * hi = (X + P * x) * y + r := by
  have : P * (B * hi + l2) = P * (x * y + c) := by rw [h2]
  grind
/-- What a product of words in a row by a word leaves. -/
def MulRPost (g o n : Nat) (P : Nat → List Nat → Prop) (w : World) (e : Ending) (w' : World) : Prop :=
  ∃ (c : Nat) (rs : List Nat), e = .returned (.int .u64 (c : Int)) ∧ c < W64 ∧ rs.length = n ∧ (∀ r ∈ rs, r < W64) ∧ P c rs ∧ WA w' g o rs ∧ Wr g o n w w'
set_option maxRecDepth 20000 in
set_option maxHeartbeats 2000000 in
theorem mul_vw_g (g o c gx ox n cz cx y r : Nat) (xs : List Nat) (w : World) (hr : RowB w g c) (hoc : o + n ≤ c) (hxl : xs.length = n) (hnb : n ≤ 100000) (hx : WA w gx ox xs) (okx : Ok g o gx ox n) (hxb : ∀ x ∈ xs, x < W64) (hy : y < W64) (hrW : r < W64) :
    Calls Tryz.prog 104 #[.slice (some ⟨g, o, none⟩) n cz, .slice (some ⟨gx, ox, none⟩) n cx, .int .u64 (y : Int), .int .u64 (r : Int)] w (MulRPost g o n (fun c rs => valW rs + W64 ^ n * c = valW xs * y + r) w) := by
  have HR := Lib.hid hr
  have HOC := Lib.hid hoc
  have HXL := Lib.hid hxl
  have HX := Lib.hid hx
  have OKX := Lib.hid okx
  have HXB := Lib.hid hxb
  clear hr hoc hxl hx okx hxb
  go_enter Tryz.func104, Tryz.ntmps104
  go_wp2_with fail
  go_loopw [8, 19] (fun cv iv wr => ∃ (i c1 : Nat) (rs : List Nat), i ≤ n ∧ iv = .int .i64 (i : Int) ∧ cv = .int .u64 (c1 : Int) ∧ Hid (c1 < W64) ∧ Hid (rs.length = i ∧ ∀ r ∈ rs, r < W64) ∧ Hid (valW rs + W64 ^ i * c1 = valW (xs.take i) * y + r) ∧ Hid (WA wr g o rs) ∧ Hid (Wr g o i w wr))
    (fun _ iv _ => n - (intOf iv).toNat)
  case atStart => exact ⟨0, r, [], Nat.zero_le _, rfl, rfl, hrW, ⟨rfl, by simp⟩, by simp [Hid, valW], WA.nil _ _ _, Wr.refl _ _ _ _⟩
  case round =>
    obtain ⟨i, c1, rs, hi, rfl, rfl, hc, hrl, hval, hwa, hO⟩ := hrel
    by_cases hin : i < n
    · have hix : i < xs.length := by rw [HXL.out]; exact hin
      obtain ⟨x, hxd⟩ : ∃ x, x = xs[i]'hix := ⟨_, rfl⟩
      have cx0 := hO.out.cell (HX.out i hix) (OKX.out i hin)
      rw [← hxd] at cx0
      have hx64 : x < W64 := by rw [hxd]; exact HXB.out _ (List.getElem_mem hix)
      have HOP := Lib.hid (fun W => mul_add_w x y c1 hx64 hy hc.out W)
      obtain ⟨hi2, hh⟩ : ∃ hi2, hi2 = (x * y + c1) / W64 := ⟨_, rfl⟩
      obtain ⟨l2, hl⟩ : ∃ l2, l2 = (x * y + c1) % W64 := ⟨_, rfl⟩
      rw [← hh, ← hl] at HOP
      have hl64 : l2 < W64 := by rw [hl]; exact Nat.mod_lt _ W64_pos
      have hh64 : hi2 < W64 := by
        rw [hh, Nat.div_lt_iff_lt_mul W64_pos]
        have h1 : x * y ≤ x * W64 := Nat.mul_le_mul_left _ (by omega)
        have h2 : (x + 1) * W64 ≤ W64 * W64 := Nat.mul_le_mul_right _ hx64
        rw [Nat.add_mul] at h2
        have := hc.out
        omega
      have hdm := Nat.div_add_mod (x * y + c1) W64
      rw [← hh, ← hl] at hdm
      have HST := Lib.hid (mv_step _ _ _ _ x y r l2 hi2 0 W64 hval.out hdm)
      have hrow := hO.out.rowB HR.out
      obtain ⟨u, hu⟩ := hrow.some (i := o + i) (by have := HOC.out; omega)
      have hfz := hrow.free (o + i)
      have HROW := Lib.hid hrow
      have HXD := Lib.hid hxd
      have hin' : (i : Int) < (n : Int) := by omega
      have hgr : g < wr.heap.size := hrow.lt
      have HL64 := Lib.hid hl64
      have HH64 := Lib.hid hh64
      clear hxd hval hx64 hl64 hh64 hrow hh hl hdm hy hrW
      go_wp2_with fail
      refine (HOP.out _).mono ?_
      rintro e w' ⟨rfl, rfl⟩
      go_wp2
      go_roundw
      case rel =>
        refine ⟨i + 1, hi2, rs ++ [l2], by omega, by go_num, rfl, HH64, ⟨by simp [hrl.out.1], ?_⟩, ?_, ?_, ?_⟩
        · intro z hz
          rcases List.mem_append.1 hz with h | h
          · exact hrl.out.2 z h
          · simp at h; rw [h]; exact HL64.out
        · unfold Hid
          rw [List.take_succ_eq_append_getElem hix, valW_append, valW_append, List.length_take, Nat.min_eq_left (by omega), hrl.out.1, ← HXD.out, Nat.pow_succ]
          simp only [valW, Nat.mul_zero, Nat.add_zero]
          exact HST.out
        · exact hwa.out.put hrl.out.1 HROW.out (by have := HOC.out; omega)
        · exact (hO.out.mono (Nat.le_refl _) (by omega)).set (by omega) (by omega) _
      case measure => simp [intOf]; omega
    · obtain rfl : i = n := by omega
      go_wp2
      go_ret
      exact ⟨c1, rs, rfl, hc.out, hrl.out.1, hrl.out.2, by have := hval.out; rw [List.take_of_length_le (by have := HXL.out; omega)] at this; exact this, hwa.out, hO.out⟩
theorem mul_vw (g o c gx ox n cz cx y r : Nat) (xs : List Nat) (w : World) (hr : RowB w g c) (hoc : o + n ≤ c) (hxl : xs.length = n) (hnb : n ≤ 100000) (hx : WA w gx ox xs) (okx : Ok g o gx ox n) (hxb : ∀ x ∈ xs, x < W64) (hy : y < W64) (hrW : r < W64) :
    Calls Tryz.prog 92 #[.slice (some ⟨g, o, none⟩) n cz, .slice (some ⟨gx, ox, none⟩) n cx, .int .u64 (y : Int), .int .u64 (r : Int)] w (MulRPost g o n (fun c rs => valW rs + W64 ^ n * c = valW xs * y + r) w) := by
  have HC := Lib.hid (mul_vw_g g o c gx ox n cz cx y r xs w hr hoc hxl hnb hx okx hxb hy hrW)
  clear hr hoc hxl hx okx hxb hy hrW
  go_enter Tryz.func92, Tryz.ntmps92
  go_wp2_with fail
  refine HC.out.mono ?_
  rintro e w' ⟨c1, rs, rfl, h1, h2, h3, h4, h5, h6⟩
  have HH := Lib.hid (And.intro h1 (And.intro h2 (And.intro h3 (And.intro h4 (And.intro h5 h6)))))
  clear h1 h2 h3 h4 h5 h6
  go_wp2
  go_ret
  exact ⟨c1, rs, rfl, HH.out⟩
end Go.Proofs.YtndeolcamgnmdaaGreatDoor
