/- Words in a row shifted by some bits, at any place of any block. -/
import Derived.Test.YtndeolcamgnmdaaGreatDoorWRow
import Derived.Test.YtndeolcamgnmdaaGreatDoorLshVU
set_option linter.unusedVariables false
set_option linter.unusedSimpArgs false
set_option linter.unnecessarySimpa false
namespace Go.Proofs.YtndeolcamgnmdaaGreatDoor
open Go.RowKit
/-- What a shift of words in a row leaves. -/
def ShRPost (g o n : Nat) (P : Nat → List Nat → Prop) (w : World) (e : Ending) (w' : World) : Prop :=
  ∃ (c : Nat) (rs : List Nat), e = .returned (.int .u64 (c : Int)) ∧ rs.length = n ∧ (∀ r ∈ rs, r < W64) ∧ P c rs ∧ WA w' g o rs ∧ Wr g o n w w'
/-- Reading x from (gx, ox) on while z is written from (g, o) on, from the top down. -/
def OkL (g o gx ox n : Nat) : Prop := ∀ i j, j ≤ i → i < n → ¬ (gx = g ∧ o + i < ox + j ∧ ox + j < o + n)
theorem OkL.same (g o n : Nat) : OkL g o g o n := fun i j _ _ => by omega
theorem OkL.apart {g o gx ox n : Nat} (h : gx ≠ g) : OkL g o gx ox n := fun i j _ _ e => h e.1
theorem WA.cons {w : World} {g o y c : Nat} {rs : List Nat} (h : WA w g (o + 1) rs) (hr : RowB w g c) (hc : o < c) : WA (w.setCell ⟨g, o, none⟩ (.int .u64 (y : Int))) g o (y :: rs) := fun j hj => by
  obtain ⟨cur, hg, hs⟩ := hr
  cases j with
  | zero => simp [World.cell?, World.setCell, Array.getElem?_modify, hg, hs, hc]
  | succ j =>
    have hj2 : j < rs.length := by simpa using hj
    have h1 := h j hj2
    have e : o + 1 + j = o + (j + 1) := by omega
    rw [e] at h1
    show World.cell? _ _ = some (.int .u64 ((rs[j]'hj2 : Nat) : Int))
    unfold World.cell? at h1 ⊢
    rw [hg] at h1
    have hne : ¬ o = o + (j + 1) := by omega
    simp [World.setCell, Array.getElem?_modify, hg, Array.getElem?_setIfInBounds, hne] at h1 ⊢
    exact h1
set_option maxRecDepth 20000 in
set_option maxHeartbeats 4000000 in
theorem lsh_rg (g o c gx ox n cz cx s : Nat) (xs : List Nat) (w : World) (hr : RowB w g c) (hoc : o + n ≤ c) (hk : 1 ≤ n) (hxl : xs.length = n) (hs0 : 0 < s) (hs : s < 64) (hnb : n ≤ 100000) (hx : WA w gx ox xs) (okx : OkL g o gx ox n) (hxb : ∀ x ∈ xs, x < W64) :
    Calls Tryz.prog 89 #[.slice (some ⟨g, o, none⟩) n cz, .slice (some ⟨gx, ox, none⟩) n cx, .int .u64 (s : Int)] w (ShRPost g o n (fun c rs => valW rs + W64 ^ n * c = valW xs * 2 ^ s) w) := by
  have HR := Lib.hid hr
  have HOC := Lib.hid hoc
  have HXL := Lib.hid hxl
  have HX := Lib.hid hx
  have HXB := Lib.hid hxb
  have OKX := Lib.hid okx
  have h63 := and_63 s hs
  obtain ⟨t, ht⟩ : ∃ t, t = 64 - s := ⟨_, rfl⟩
  have h63' := and_63 t (by omega)
  have hw1 : IntKind.u64.wrap ((64 : Int) - (s : Int)) = (t : Int) := by rw [wrap64_small _ (by omega) (by omega)]; omega
  have hs1 : ((s : Int) == 0) = false := by rw [beq_eq_false_iff_ne]; omega
  have hk1 : ((n : Int) == 0) = false := by rw [beq_eq_false_iff_ne]; omega
  obtain ⟨m, hm⟩ : ∃ m, n = m + 1 := ⟨n - 1, by omega⟩
  have hm1 : (n : Int) - 1 = (m : Int) := by omega
  have hmk : (m : Int) < (n : Int) := by omega
  have h0k : (0 : Int) < (n : Int) := by omega
  have hmt : min t 64 = t := by omega
  have hms : min s 64 = s := by omega
  have htop : m < xs.length := by omega
  obtain ⟨x, hxd⟩ : ∃ x, x = xs[m]'htop := ⟨_, rfl⟩
  have cx0 := hx m htop
  rw [← hxd] at cx0
  have hx64 : x < W64 := by rw [hxd]; exact hxb _ (List.getElem_mem _)
  have HT := Lib.hid ht
  have HM := Lib.hid hm
  have HXD := Lib.hid hxd
  clear hr hoc hxl hx hxb okx hxd ht hm
  go_enter Tryz.func89, Tryz.ntmps89
  go_wp2_with fail
  obtain ⟨k, hk2⟩ : ∃ k, (x : Int) / 2 ^ t = ((k : Nat) : Int) := ⟨x / 2 ^ t, by simp⟩
  have HC : Hid (k = x / 2 ^ t) := by
    unfold Hid
    have : ((x / 2 ^ t : Nat) : Int) = (k : Int) := by rw [← hk2]; simp
    omega
  rw [hk2]
  clear hk2
  go_loopw [8] (fun iv wr => ∃ (i : Nat) (rs : List Nat), i ≤ m ∧ iv = .int .i64 (i : Int) ∧ Hid (rs.length = m - i ∧ ∀ r ∈ rs, r < W64) ∧ Hid (∀ (hi : i < xs.length), valW rs + W64 ^ (m - i) * k = valW (xs.drop (i + 1)) * 2 ^ s + (xs[i]'hi) / 2 ^ (64 - s)) ∧ Hid (WA wr g (o + i + 1) rs) ∧ Hid (Wr g (o + i + 1) (m - i) w wr))
    (fun iv _ => (intOf iv).toNat)
  case atStart =>
    refine ⟨m, [], Nat.le_refl _, rfl, ⟨by simp, by simp⟩, ?_, WA.nil _ _ _, Wr.refl _ _ _ _⟩
    intro hi
    have h1 := HXL.out
    have h2 := HM.out
    rw [List.drop_of_length_le (by omega), ← HXD.out, HC.out, HT.out]
    simp [valW]
  case round =>
    obtain ⟨i, rs, him, rfl, hrl, hval, hwa, hO⟩ := hrel
    have hxl := HXL.out
    have hm := HM.out
    have hoc := HOC.out
    have hix : i < xs.length := by omega
    have c1 := hO.out.cell (HX.out i hix) (by rintro ⟨h1, h2, h3⟩; exact OKX.out i i (Nat.le_refl _) (by omega) ⟨h1, by omega, by omega⟩)
    obtain ⟨x1, hx1⟩ : ∃ x1, x1 = xs[i]'hix := ⟨_, rfl⟩
    rw [← hx1] at c1
    have hb1 : x1 < W64 := by rw [hx1]; exact HXB.out _ (List.getElem_mem _)
    have hrow := hO.out.rowB HR.out
    obtain ⟨u, hu⟩ := hrow.some (i := o + i) (by omega)
    have hfz := hrow.free (o + i)
    have HROW := Lib.hid hrow
    have hgr : g < wr.heap.size := hrow.lt
    have hik : (i : Int) < (n : Int) := by omega
    have hwr : IntKind.u64.wrap ((x1 : Int) * 2 ^ s) = ((x1 * 2 ^ s % W64 : Nat) : Int) := by
      rw [IntKind.wrap_u64]
      unfold W64
      simp
    obtain ⟨y1, hy1⟩ : ∃ y, y = x1 * 2 ^ s % W64 := ⟨_, rfl⟩
    rw [← hy1] at hwr
    have hy64 : y1 < W64 := by rw [hy1]; exact Nat.mod_lt _ W64_pos
    by_cases h0 : 0 < i
    · obtain ⟨j, hj⟩ : ∃ j, i = j + 1 := ⟨i - 1, by omega⟩
      have hjx : j < xs.length := by omega
      have c2 := hO.out.cell (HX.out j hjx) (by rintro ⟨h1, h2, h3⟩; exact OKX.out i j (by omega) (by omega) ⟨h1, by omega, by omega⟩)
      obtain ⟨x2, hx2⟩ : ∃ x2, x2 = xs[j]'hjx := ⟨_, rfl⟩
      rw [← hx2] at c2
      have hb2 : x2 < W64 := by rw [hx2]; exact HXB.out _ (List.getElem_mem _)
      have hd : decide ((0 : Int) < (i : Int)) = true := by rw [decide_eq_true_iff]; omega
      have hd' : decide (0 < i) = true := by rw [decide_eq_true_iff]; omega
      have hsub : (i : Int) - 1 = (j : Int) := by omega
      have hjk : (j : Int) < (n : Int) := by omega
      have hwj : IntKind.i64.wrap (j : Int) = (j : Int) := wrap_i64_mid _ (by omega) (by omega)
      obtain ⟨lo, hlo⟩ : ∃ lo, lo = x2 / 2 ^ t := ⟨_, rfl⟩
      have hlo2 : (x2 : Int) / 2 ^ t = (lo : Int) := by rw [hlo]; simp
      have hword := shl_word x1 x2 s (by omega) hb2
      rw [← HT.out, ← hlo, ← hy1] at hword
      have hl64 : lo < W64 := by rw [hlo]; exact Nat.lt_of_le_of_lt (Nat.div_le_self _ _) hb2
      obtain ⟨r, hr⟩ : ∃ r, r = y1 + lo := ⟨_, rfl⟩
      have hor : bits .or .u64 (y1 : Int) (lo : Int) = (r : Int) := by rw [bits_or y1 lo hy64 hl64, hword.1, hr]
      have hr64 : r < W64 := by rw [hr]; exact hword.2
      have HR64 := Lib.hid hr64
      have HRR := Lib.hid hr
      have HY1 := Lib.hid hy1
      have HLO := Lib.hid hlo
      have HX1 := Lib.hid hx1
      have HX2 := Lib.hid hx2
      have HJ := Lib.hid hj
      clear hxl h0 hx1 hx2 hword hr hr64 hl64 hlo hy1 hy64 hb1 hb2 hj hm hx64 hoc hrow
      go_wp2_with fail
      go_still_tail 17, (by kernel_rfl)
      go_wp2
      go_roundw
      case rel =>
        have e : i = j + 1 := HJ.out
        have hm := HM.out
        refine ⟨j, r :: rs, by omega, rfl, ⟨by have := hrl.out.1; simp; omega, ?_⟩, ?_, ?_, ?_⟩
        · intro z hz
          rcases List.mem_cons.1 hz with h | h
          · rw [h]; exact HR64.out
          · exact hrl.out.2 z h
        · intro hj
          have h1 := hval.out (by omega)
          have h2 : xs.drop (j + 1) = x1 :: xs.drop (j + 1 + 1) := by
            rw [HX1.out]; subst e; exact List.drop_eq_getElem_cons _
          rw [← HX1.out, show i + 1 = j + 1 + 1 by omega] at h1
          rw [h2, ← HX2.out, show m - j = (m - i) + 1 by omega, Nat.pow_succ, Nat.mul_comm _ W64, ← HT.out, ← HLO.out]
          simp only [valW]
          exact shl_step _ _ _ _ _ _ _ _ (by omega) h1 (by rw [← HY1.out]; exact HRR.out)
        · rw [show o + j + 1 = o + i by omega]
          exact (hwa.out.cons HROW.out (by have := HOC.out; omega)).hp rfl
        · rw [show o + j + 1 = o + i by omega]
          exact ((hO.out.mono (by omega) (by omega)).set (by omega) (by omega) _).drew
      case measure => have := HJ.out; simp [intOf]; omega
    · obtain rfl : i = 0 := by omega
      have HY1 := Lib.hid hy1
      have HX1 := Lib.hid hx1
      have HY64 := Lib.hid hy64
      have hOO := hO.out.mono (o2 := o) (k2 := n) (by omega) (by omega)
      have HOO := Lib.hid hOO
      rw [Nat.add_zero] at c1 hu hfz
      clear hxl hx1 hy1 hy64 hb1 hm hx64 hoc hrow hOO
      go_wp2
      go_ret
      refine ⟨k, y1 :: rs, rfl, by have := hrl.out.1; have := HM.out; simp; omega, ?_, ?_, WA.cons (o := o) hwa.out HROW.out (by have := HOC.out; omega), HOO.out.set (Nat.le_refl _) (by omega) _⟩
      · intro z hz
        rcases List.mem_cons.1 hz with h | h
        · rw [h]; exact HY64.out
        · exact hrl.out.2 z h
      · have h1 := hval.out hix
        have h2 : xs = x1 :: xs.drop (0 + 1) := by
          rw [HX1.out]
          cases xs with
          | nil => simp at hix
          | cons a l => rfl
        rw [← HX1.out] at h1
        have h3 := shl_step (valW rs) (valW (xs.drop (0 + 1))) k x1 (W64 ^ (m - 0)) s 0 y1 (by omega) h1 (by rw [← HY1.out, Nat.add_zero])
        have h4 : W64 ^ n = W64 * W64 ^ (m - 0) := by rw [HM.out, Nat.pow_succ, Nat.mul_comm]; rfl
        rw [h2, h4]
        simp only [valW]
        exact h3
set_option maxHeartbeats 1000000 in
theorem lsh_r (g o c gx ox n cz cx s : Nat) (xs : List Nat) (w : World) (hr : RowB w g c) (hoc : o + n ≤ c) (hk : 1 ≤ n) (hxl : xs.length = n) (hs0 : 0 < s) (hs : s < 64) (hnb : n ≤ 100000) (hx : WA w gx ox xs) (okx : OkL g o gx ox n) (hxb : ∀ x ∈ xs, x < W64) :
    Calls Tryz.prog 71 #[.slice (some ⟨g, o, none⟩) n cz, .slice (some ⟨gx, ox, none⟩) n cx, .int .u64 (s : Int)] w (ShRPost g o n (fun c rs => valW rs + W64 ^ n * c = valW xs * 2 ^ s) w) := by
  have HC := Lib.hid (lsh_rg g o c gx ox n cz cx s xs w hr hoc hk hxl hs0 hs hnb hx okx hxb)
  clear hr hoc hxl hx hxb okx
  go_enter Tryz.func71, Tryz.ntmps71
  go_wp2_with fail
  refine HC.out.mono ?_
  rintro e w' ⟨c1, rs, rfl, h1, h2, h3, h4, h5⟩
  have HH := Lib.hid (And.intro h1 (And.intro h2 (And.intro h3 (And.intro h4 h5))))
  clear h1 h2 h3 h4 h5
  go_wp2
  go_ret
  exact ⟨c1, rs, rfl, HH.out⟩
theorem shr_parts (x s : Nat) : x = 2 ^ s * (x / 2 ^ s) + x % 2 ^ s := (Nat.div_add_mod x (2 ^ s)).symm
theorem shr_alg (P S T W V lo a b m q r y : Nat) (hW : W = S * T) (hy : y = S * q + m) (hr : r = b + T * m) (h : a = S * (V + P * b) + lo) : a + P * W * y = S * (V + P * r + P * W * q) + lo := by
  subst hW hy hr h
  grind
set_option maxRecDepth 20000 in
set_option maxHeartbeats 4000000 in
theorem rsh_rg (g o c gx ox n cz cx s : Nat) (xs : List Nat) (w : World) (hr : RowB w g c) (hoc : o + n ≤ c) (hk : 1 ≤ n) (hxl : xs.length = n) (hs0 : 0 < s) (hs : s < 64) (hnb : n ≤ 100000) (hx : WA w gx ox xs) (okx : Ok g o gx ox n) (hxb : ∀ x ∈ xs, x < W64) :
    Calls Tryz.prog 94 #[.slice (some ⟨g, o, none⟩) n cz, .slice (some ⟨gx, ox, none⟩) n cx, .int .u64 (s : Int)] w (ShRPost g o n (fun _ rs => valW rs = valW xs / 2 ^ s) w) := by
  have HR := Lib.hid hr
  have HOC := Lib.hid hoc
  have HXL := Lib.hid hxl
  have HX := Lib.hid hx
  have HXB := Lib.hid hxb
  have OKX := Lib.hid okx
  have h63 := and_63 s hs
  obtain ⟨t, ht⟩ : ∃ t, t = 64 - s := ⟨_, rfl⟩
  have h63' := and_63 t (by omega)
  have hw1 : IntKind.u64.wrap ((64 : Int) - (s : Int)) = (t : Int) := by rw [wrap64_small _ (by omega) (by omega)]; omega
  have hs1 : ((s : Int) == 0) = false := by rw [beq_eq_false_iff_ne]; omega
  have hk1 : ((n : Int) == 0) = false := by rw [beq_eq_false_iff_ne]; omega
  obtain ⟨m, hm⟩ : ∃ m, n = m + 1 := ⟨n - 1, by omega⟩
  have hm1 : (n : Int) - 1 = (m : Int) := by omega
  have hmk : (m : Int) < (n : Int) := by omega
  have h0k : (0 : Int) < (n : Int) := by omega
  have hmt : min t 64 = t := by omega
  have hms : min s 64 = s := by omega
  have h00 : 0 < xs.length := by omega
  obtain ⟨x, hxd⟩ : ∃ x, x = xs[0]'h00 := ⟨_, rfl⟩
  have cx0 := hx 0 h00
  rw [← hxd, Nat.add_zero] at cx0
  have hx64 : x < W64 := by rw [hxd]; exact hxb _ (List.getElem_mem _)
  have HT := Lib.hid ht
  have HM := Lib.hid hm
  have HXD := Lib.hid hxd
  obtain ⟨k, hk2⟩ : ∃ k, k = x * 2 ^ t % W64 := ⟨_, rfl⟩
  have hwk : IntKind.u64.wrap ((x : Int) * 2 ^ t) = (k : Int) := by rw [hk2, IntKind.wrap_u64]; unfold W64; simp
  have hT := ht
  clear hr hoc hxl hx hxb okx hxd ht hm hk2 hT
  go_enter Tryz.func94, Tryz.ntmps94
  go_wp2_with fail
  go_loopw [8] (fun iv wr => ∃ (i j : Nat) (rs : List Nat), i ≤ n ∧ iv = .int .i64 (i : Int) ∧ Hid (i = j + 1) ∧ Hid (rs.length = j ∧ ∀ r ∈ rs, r < W64) ∧ Hid (∀ (hj : j < xs.length), valW (xs.take i) = 2 ^ s * (valW rs + W64 ^ j * ((xs[j]'hj) / 2 ^ s)) + x % 2 ^ s) ∧ Hid (WA wr g o rs) ∧ Hid (Wr g o j w wr))
    (fun iv _ => n - (intOf iv).toNat)
  case atStart =>
    refine ⟨1, 0, [], hk, rfl, rfl, ⟨rfl, by simp⟩, ?_, WA.nil _ _ _, Wr.refl _ _ _ _⟩
    intro hj
    rw [← HXD.out]
    have e : xs.take 1 = [x] := by
      rw [HXD.out, List.take_succ_eq_append_getElem (by omega)]; simp
    rw [e]
    simp only [valW, Nat.mul_zero, Nat.add_zero, Nat.pow_zero, Nat.one_mul, Nat.zero_add]
    exact shr_parts x s
  case round =>
    obtain ⟨i, j, rs, hin, rfl, hij, hrl, hval, hwa, hO⟩ := hrel
    have hxl := HXL.out
    have hoc := HOC.out
    have hij1 := hij.out
    have hjx : j < xs.length := by omega
    have c1 := hO.out.cell (HX.out j hjx) (OKX.out j (by omega))
    obtain ⟨x1, hx1⟩ : ∃ x1, x1 = xs[j]'hjx := ⟨_, rfl⟩
    rw [← hx1] at c1
    have hb1 : x1 < W64 := by rw [hx1]; exact HXB.out _ (List.getElem_mem _)
    have hrow := hO.out.rowB HR.out
    obtain ⟨u, hu⟩ := hrow.some (i := o + j) (by omega)
    have hfz := hrow.free (o + j)
    have HROW := Lib.hid hrow
    have hgr : g < wr.heap.size := hrow.lt
    obtain ⟨q1, hq1⟩ : ∃ q1, q1 = x1 / 2 ^ s := ⟨_, rfl⟩
    have hq2 : (x1 : Int) / 2 ^ s = (q1 : Int) := by rw [hq1]; simp
    have hq64 : q1 < W64 := by rw [hq1]; exact Nat.lt_of_le_of_lt (Nat.div_le_self _ _) hb1
    have hsub : (i : Int) - 1 = (j : Int) := by omega
    have hjn : (j : Int) < (n : Int) := by omega
    have hwj : IntKind.i64.wrap (j : Int) = (j : Int) := wrap_i64_mid _ (by omega) (by omega)
    by_cases hlt : i < n
    · have hix : i < xs.length := by omega
      have c2 := hO.out.cell (HX.out i hix) (by rintro ⟨h1, h2, h3⟩; exact OKX.out i (by omega) ⟨h1, h2, by omega⟩)
      obtain ⟨x2, hx2⟩ : ∃ x2, x2 = xs[i]'hix := ⟨_, rfl⟩
      rw [← hx2] at c2
      have hb2 : x2 < W64 := by rw [hx2]; exact HXB.out _ (List.getElem_mem _)
      have hd : decide ((i : Int) < (n : Int)) = true := by rw [decide_eq_true_iff]; omega
      have hd' : decide (i < n) = true := by rw [decide_eq_true_iff]; omega
      have hilt : (i : Int) < (n : Int) := by omega
      obtain ⟨hi2, hhi⟩ : ∃ hi2, hi2 = x2 * 2 ^ t % W64 := ⟨_, rfl⟩
      have hhw : IntKind.u64.wrap ((x2 : Int) * 2 ^ t) = (hi2 : Int) := by rw [hhi, IntKind.wrap_u64]; unfold W64; simp
      have hword := shr_word x1 x2 s (by omega) hb1
      rw [← HT.out, ← hhi, ← hq1] at hword
      have hh64 : hi2 < W64 := by rw [hhi]; exact Nat.mod_lt _ W64_pos
      obtain ⟨r, hr⟩ : ∃ r, r = q1 + hi2 := ⟨_, rfl⟩
      have hor : bits .or .u64 (q1 : Int) (hi2 : Int) = (r : Int) := by rw [bits_or q1 hi2 hq64 hh64, hword.1, hr]
      have HR64 : Hid (r < W64) := by unfold Hid; rw [hr]; exact hword.2
      have HRR := Lib.hid hr
      have HQ1 := Lib.hid hq1
      have HHI := Lib.hid hhi
      have HX1 := Lib.hid hx1
      have HX2 := Lib.hid hx2
      clear hxl hx1 hx2 hword hr hh64 hhi hq1 hq64 hb1 hb2 hoc hrow hx64 hij1
      go_wp2_with fail
      go_still_tail 18, (by kernel_rfl)
      go_wp2
      go_roundw
      case rel =>
        have hij1 := hij.out
        refine ⟨i + 1, i, rs ++ [r], by omega, by go_num, rfl, ⟨by simp [hrl.out.1]; omega, ?_⟩, ?_, ?_, ?_⟩
        · intro z hz
          rcases List.mem_append.1 hz with h | h
          · exact hrl.out.2 z h
          · simp at h; rw [h]; exact HR64.out
        · intro hi
          have h1 := hval.out hjx
          rw [← HX1.out, ← HQ1.out] at h1
          rw [List.take_succ_eq_append_getElem hi, valW_append, valW_append, List.length_take, Nat.min_eq_left (by omega), hrl.out.1, ← HX2.out]
          simp only [valW, Nat.mul_zero, Nat.add_zero]
          have e1 : W64 ^ i = W64 ^ j * W64 := by rw [hij1, Nat.pow_succ]
          rw [e1]
          have e2 : hi2 = 2 ^ t * (x2 % 2 ^ s) := by rw [HHI.out, shl_mod x2 t (by omega), show 64 - t = s by have := HT.out; omega]
          exact shr_alg (W64 ^ j) (2 ^ s) (2 ^ t) W64 _ _ _ _ _ _ _ _ (by rw [HT.out]; exact two_split s (by omega)) (shr_parts x2 s) (by rw [HRR.out, e2]) h1
        · have h2 := WA.put (x := r) hwa.out hrl.out.1 HROW.out (by have := HOC.out; omega)
          exact h2.hp rfl
        · exact ((hO.out.mono (Nat.le_refl _) (by omega)).set (by omega) (by omega) _).drew
      case measure => simp [intOf]; omega
    · obtain rfl : i = n := by omega
      have HQ1 := Lib.hid hq1
      have HX1 := Lib.hid hx1
      have HQ64 := Lib.hid hq64
      have hjm : j = m := by have := HM.out; omega
      have hd : decide ((i : Int) < (i : Int)) = false := by simp
      have hd' : decide (i < i) = false := by simp
      subst hjm
      clear hxl hx1 hq1 hq64 hb1 hoc hrow hx64 hij1
      go_wp2
      go_ret
      refine ⟨k, rs ++ [q1], rfl, by have := hrl.out.1; have := HM.out; simp; omega, ?_, ?_, hwa.out.put hrl.out.1 HROW.out (by have := HOC.out; omega), ((hO.out.mono (Nat.le_refl _) (by omega)).set (by omega) (by omega) _)⟩
      · intro z hz
        rcases List.mem_append.1 hz with h | h
        · exact hrl.out.2 z h
        · simp at h; rw [h]; exact HQ64.out
      · have h1 := hval.out hjx
        rw [← HX1.out, ← HQ1.out, List.take_of_length_le (by have := HXL.out; omega)] at h1
        show valW (rs ++ [q1]) = valW xs / 2 ^ s
        rw [valW_append, hrl.out.1]
        simp only [valW, Nat.mul_zero, Nat.add_zero]
        have hp : 0 < 2 ^ s := Nat.pow_pos (by decide)
        have hlt2 : x % 2 ^ s < 2 ^ s := Nat.mod_lt _ hp
        rw [h1, Nat.mul_add_div hp, Nat.div_eq_of_lt hlt2, Nat.add_zero]
theorem rsh_r (g o c gx ox n cz cx s : Nat) (xs : List Nat) (w : World) (hr : RowB w g c) (hoc : o + n ≤ c) (hk : 1 ≤ n) (hxl : xs.length = n) (hs0 : 0 < s) (hs : s < 64) (hnb : n ≤ 100000) (hx : WA w gx ox xs) (okx : Ok g o gx ox n) (hxb : ∀ x ∈ xs, x < W64) :
    Calls Tryz.prog 75 #[.slice (some ⟨g, o, none⟩) n cz, .slice (some ⟨gx, ox, none⟩) n cx, .int .u64 (s : Int)] w (ShRPost g o n (fun _ rs => valW rs = valW xs / 2 ^ s) w) := by
  have HC := Lib.hid (rsh_rg g o c gx ox n cz cx s xs w hr hoc hk hxl hs0 hs hnb hx okx hxb)
  clear hr hoc hxl hx hxb okx
  go_enter Tryz.func75, Tryz.ntmps75
  go_wp2_with fail
  refine HC.out.mono ?_
  rintro e w' ⟨c1, rs, rfl, h1, h2, h3, h4, h5⟩
  have HH := Lib.hid (And.intro h1 (And.intro h2 (And.intro h3 (And.intro h4 h5))))
  clear h1 h2 h3 h4 h5
  go_wp2
  go_ret
  exact ⟨c1, rs, rfl, HH.out⟩
end Go.Proofs.YtndeolcamgnmdaaGreatDoor
