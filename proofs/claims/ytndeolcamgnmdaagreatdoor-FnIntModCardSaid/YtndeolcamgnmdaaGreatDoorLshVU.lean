/- Words in a row shifted to the left by some bits, from the top on. -/
import Derived.Test.YtndeolcamgnmdaaGreatDoorShlPlain
import Derived.Test.YtndeolcamgnmdaaGreatDoorModBaseD
import Derived.Test.YtndeolcamgnmdaaGreatDoorShelf
import Derived.Laws.BitsAllLaws
import Derived.Deep.RegionLaw
import Derived.StillTailTactics
set_option linter.unusedVariables false
set_option linter.unusedSimpArgs false
set_option linter.unnecessarySimpa false
namespace Go.Proofs.YtndeolcamgnmdaaGreatDoor
open Go.RowKit
theorem nlz_w (x : Nat) (hx : x < W64) (w : World) : Calls Tryz.prog 69 #[.int .u64 (x : Int)] w fun e w' => e = .returned (.int .u64 ((64 - Lib.bitLen x : Nat) : Int)) ∧ w = w' := by
  have hb := bitLen_64 x hx
  have HC := Lib.hid (Tryz.bits_LeadingZeros (x : Int) w (by omega) (by unfold W64 at hx; omega))
  rw [Int.toNat_natCast] at HC
  obtain ⟨b, hbe⟩ : ∃ b, b = Lib.bitLen x := ⟨_, rfl⟩
  rw [← hbe] at HC hb ⊢
  have hw : IntKind.u64.wrap ((64 : Int) - (b : Int)) = ((64 - b : Nat) : Int) := by rw [wrap64_small _ (by omega) (by omega)]; omega
  clear hbe hx
  go_enter Tryz.func69, Tryz.ntmps69
  go_wp2_with fail
  refine HC.out.mono ?_
  rintro e w' ⟨rfl, rfl⟩
  go_wp2
  go_ret
  exact ⟨rfl, rfl⟩
def ShlPost (B gz N cz k : Nat) (zs : List Nat) (P : Nat → List Nat → Prop) (w : World) (e : Ending) (w' : World) : Prop :=
  ∃ (c : Nat) (rs : List Nat), e = .returned (.int .u64 (c : Int)) ∧ rs.length = k ∧ P c rs ∧ OW w' B (.slice (some ⟨gz, 0, none⟩) N cz) (rs ++ zs.drop k) ∧ Only (· = gz) w w'
theorem and_63 (s : Nat) (hs : s < 64) : bits .and .u64 (s : Int) 63 = (s : Int) := by
  have h := u64_and_nat s 63 (by omega) (by omega)
  rw [show ((63 : Nat) : Int) = 63 from rfl] at h
  rw [h, show (63 : Nat) = 2 ^ 6 - 1 by decide, Nat.and_two_pow_sub_one_eq_mod, Nat.mod_eq_of_lt (by omega)]
theorem set_top {zs rs ts : List Nat} {i : Nat} (hi : i < zs.length) (y : Nat) : (zs.take (i + 1) ++ rs ++ ts).set i y = zs.take i ++ (y :: rs) ++ ts := by
  have h1 : zs.take (i + 1) = zs.take i ++ [zs[i]'hi] := List.take_succ_eq_append_getElem hi
  have h2 : (zs.take i).length = i := by simp; omega
  rw [h1, List.append_assoc, List.append_assoc, List.set_append_right _ _ (by omega), h2, Nat.sub_self]
  simp
theorem take_top {zs rs ts : List Nat} {i : Nat} (hi : i ≤ zs.length) : (zs.take i ++ rs ++ ts).take i = zs.take i := by
  have h2 : (zs.take i).length = i := by simp; omega
  rw [List.append_assoc, List.take_append_of_le_length (by omega), List.take_of_length_le (by omega)]
set_option maxRecDepth 20000 in
set_option maxHeartbeats 4000000 in
theorem lsh_vu_g (B gz N cz k cz2 gx cx s : Nat) (zs xs : List Nat) (w : World) (hz : OW w B (.slice (some ⟨gz, 0, none⟩) N cz) zs) (hk : 1 ≤ k) (hkz : k ≤ zs.length) (hxl : xs.length = k) (hs0 : 0 < s) (hs : s < 64) (hnb : k ≤ 100000)
    (hx : ∀ W' zs' i, Only (· = gz) w W' → OW W' B (.slice (some ⟨gz, 0, none⟩) N cz) zs' → zs'.take i = zs.take i → ∀ j (h : j < xs.length), j < i → W'.cell? ⟨gx, j, none⟩ = some (.int .u64 ((xs[j]'h : Nat) : Int)))
    (hxb : ∀ x ∈ xs, x < W64) :
    Calls Tryz.prog 89 #[.slice (some ⟨gz, 0, none⟩) k cz2, .slice (some ⟨gx, 0, none⟩) k cx, .int .u64 (s : Int)] w (ShlPost B gz N cz k zs (fun c rs => valW rs + W64 ^ k * c = valW xs * 2 ^ s) w) := by
  have HZ := Lib.hid hz
  have HXL := Lib.hid hxl
  have HX := Lib.hid hx
  have HXB := Lib.hid hxb
  have HKZ := Lib.hid hkz
  have hgz : gz < w.heap.size := (hz.1.lt _ rfl).2
  have h63 := and_63 s hs
  obtain ⟨t, ht⟩ : ∃ t, t = 64 - s := ⟨_, rfl⟩
  have h63' := and_63 t (by omega)
  have hw1 : IntKind.u64.wrap ((64 : Int) - (s : Int)) = (t : Int) := by rw [wrap64_small _ (by omega) (by omega)]; omega
  have hs1 : ((s : Int) == 0) = false := by rw [beq_eq_false_iff_ne]; omega
  have hk1 : ((k : Int) == 0) = false := by rw [beq_eq_false_iff_ne]; omega
  obtain ⟨m, hm⟩ : ∃ m, k = m + 1 := ⟨k - 1, by omega⟩
  have hm1 : (k : Int) - 1 = (m : Int) := by omega
  have hmk : (m : Int) < (k : Int) := by omega
  have h0k : (0 : Int) < (k : Int) := by omega
  have hmt : min t 64 = t := by omega
  have hms : min s 64 = s := by omega
  have htop : m < xs.length := by omega
  obtain ⟨x, hxd⟩ : ∃ x, x = xs[m]'htop := ⟨_, rfl⟩
  have cx0 := hx w zs (m + 1) (Only.refl _ _) hz rfl m htop (by omega)
  rw [← hxd] at cx0
  have hx64 : x < W64 := by rw [hxd]; exact hxb _ (List.getElem_mem _)
  have HT := Lib.hid ht
  have HM := Lib.hid hm
  have HXD := Lib.hid hxd
  clear hz hxl hx hxb hkz hxd ht hm
  go_enter Tryz.func89, Tryz.ntmps89
  go_wp2_with fail
  obtain ⟨c, hc⟩ : ∃ c, (x : Int) / 2 ^ t = ((c : Nat) : Int) := ⟨x / 2 ^ t, by simp⟩
  have HC : Hid (c = x / 2 ^ t) := by
    unfold Hid
    have : ((x / 2 ^ t : Nat) : Int) = (c : Int) := by rw [← hc]; simp
    omega
  rw [hc]
  clear hc
  go_loopw [8] (fun iv wr => ∃ (i : Nat) (rs : List Nat), i ≤ m ∧ iv = .int .i64 (i : Int) ∧ Hid (rs.length = m - i) ∧ Hid (∀ (hi : i < xs.length), valW rs + W64 ^ (m - i) * c = valW (xs.drop (i + 1)) * 2 ^ s + (xs[i]'hi) / 2 ^ (64 - s)) ∧ Hid (OW wr B (.slice (some ⟨gz, 0, none⟩) N cz) (zs.take (i + 1) ++ rs ++ zs.drop k)) ∧ Hid (Only (· = gz) w wr))
    (fun iv _ => (intOf iv).toNat)
  case atStart =>
    refine ⟨m, [], Nat.le_refl _, rfl, by simp [Hid], ?_, ?_, Only.refl _ _⟩
    · intro hi
      have h1 := HXL.out
      have h2 := HM.out
      rw [List.drop_of_length_le (by omega), ← HXD.out, HC.out, HT.out]
      simp [valW]
    · have := HZ.out
      unfold Hid
      rw [List.append_nil, HM.out, List.take_append_drop]; exact this
  case round =>
    obtain ⟨i, rs, him, rfl, hrl, hval, how, hO⟩ := hrel
    have hxl := HXL.out
    have hkz := HKZ.out
    have hm := HM.out
    have hix : i < xs.length := by omega
    have htk : (zs.take (i + 1) ++ rs ++ zs.drop k).take (i + 1) = zs.take (i + 1) := take_top (by omega)
    have c1 := HX.out wr _ (i + 1) hO.out how.out htk i hix (by omega)
    obtain ⟨x1, hx1⟩ : ∃ x1, x1 = xs[i]'hix := ⟨_, rfl⟩
    rw [← hx1] at c1
    have hb1 : x1 < W64 := by rw [hx1]; exact HXB.out _ (List.getElem_mem _)
    have hzl : i < (zs.take (i + 1) ++ rs ++ zs.drop k).length := by have := hrl.out; simp; omega
    have cz1 := how.out.cell i hzl
    have fz1 := how.out.free i
    have hgr : gz < wr.heap.size := Nat.lt_of_lt_of_le hgz hO.out.size
    have hik : (i : Int) < (k : Int) := by omega
    have hwr : IntKind.u64.wrap ((x1 : Int) * 2 ^ s) = ((x1 * 2 ^ s % W64 : Nat) : Int) := by
      rw [IntKind.wrap_u64]
      unfold W64
      simp
    obtain ⟨y1, hy1⟩ : ∃ y, y = x1 * 2 ^ s % W64 := ⟨_, rfl⟩
    rw [← hy1] at hwr
    have hy64 : y1 < W64 := by rw [hy1]; exact Nat.mod_lt _ W64_pos
    by_cases h0 : 0 < i
    · obtain ⟨j, hj⟩ : ∃ j, i = j + 1 := ⟨i - 1, by omega⟩
      have hjx : j < xs.length := by omega
      have c2 := HX.out wr _ (i + 1) hO.out how.out htk j hjx (by omega)
      obtain ⟨x2, hx2⟩ : ∃ x2, x2 = xs[j]'hjx := ⟨_, rfl⟩
      rw [← hx2] at c2
      have hb2 : x2 < W64 := by rw [hx2]; exact HXB.out _ (List.getElem_mem _)
      have hd : decide ((0 : Int) < (i : Int)) = true := by rw [decide_eq_true_iff]; omega
      have hd' : decide (0 < i) = true := by rw [decide_eq_true_iff]; omega
      have hsub : (i : Int) - 1 = (j : Int) := by omega
      have hjk : (j : Int) < (k : Int) := by omega
      have hwj : IntKind.i64.wrap (j : Int) = (j : Int) := wrap_i64_mid _ (by omega) (by omega)
      obtain ⟨lo, hlo⟩ : ∃ lo, lo = x2 / 2 ^ t := ⟨_, rfl⟩
      have hlo2 : (x2 : Int) / 2 ^ t = (lo : Int) := by rw [hlo]; simp
      have hword := shl_word x1 x2 s (by omega) hb2
      rw [← HT.out, ← hlo, ← hy1] at hword
      have hl64 : lo < W64 := by rw [hlo]; exact Nat.lt_of_le_of_lt (Nat.div_le_self _ _) hb2
      obtain ⟨r, hr⟩ : ∃ r, r = y1 + lo := ⟨_, rfl⟩
      have hor : bits .or .u64 (y1 : Int) (lo : Int) = (r : Int) := by rw [bits_or y1 lo hy64 hl64, hword.1, hr]
      have hr64 : r < W64 := by rw [hr]; exact hword.2
      have HR64 := Lib.hid hr64
      have HR := Lib.hid hr
      have HY1 := Lib.hid hy1
      have HLO := Lib.hid hlo
      have HX1 := Lib.hid hx1
      have HX2 := Lib.hid hx2
      have HJ := Lib.hid hj
      clear hxl hkz htk h0 hx1 hx2 hword hr hr64 hl64 hlo hy1 hy64 hb1 hb2 hj hm hx64
      go_wp2_with fail
      go_still_tail 17, (by kernel_rfl)
      go_wp2
      go_roundw
      case rel =>
        have e : i = j + 1 := HJ.out
        refine ⟨j, r :: rs, by omega, rfl, by have := hrl.out; simp [Hid]; omega, ?_, ?_, ((hO.out.setCell (p := ⟨gz, i, none⟩) (.inl rfl) _).drew)⟩
        · intro hj
          have h1 := hval.out (by omega)
          have h2 : xs.drop (j + 1) = x1 :: xs.drop (j + 1 + 1) := by
            rw [HX1.out]; subst e; exact List.drop_eq_getElem_cons _
          rw [← HX1.out, show i + 1 = j + 1 + 1 by omega] at h1
          rw [h2, ← HX2.out, show m - j = (m - i) + 1 by omega, Nat.pow_succ, Nat.mul_comm _ W64, ← HT.out, ← HLO.out]
          simp only [valW]
          exact shl_step _ _ _ _ _ _ _ _ (by omega) h1 (by rw [← HY1.out]; exact HR.out)
        · unfold Hid
          have h1 := (how.out.store i r HR64.out)
          rw [set_top (by have := HKZ.out; omega)] at h1
          rw [← e]
          exact h1
      case measure => have := HJ.out; simp [intOf]; omega
    · obtain rfl : i = 0 := by omega
      have HY1 := Lib.hid hy1
      have HX1 := Lib.hid hx1
      have HY64 := Lib.hid hy64
      clear hxl hkz htk hx1 hy1 hy64 hb1 hm hx64
      go_wp2
      go_ret
      refine ⟨c, y1 :: rs, rfl, by have := hrl.out; have := HM.out; simp; omega, ?_, ?_, hO.out.setCell (p := ⟨gz, 0, none⟩) (.inl rfl) _⟩
      · have h1 := hval.out hix
        have h2 : xs = x1 :: xs.drop (0 + 1) := by
          rw [HX1.out]
          cases xs with
          | nil => simp at hix
          | cons a l => rfl
        rw [← HX1.out] at h1
        have h3 := shl_step (valW rs) (valW (xs.drop (0 + 1))) c x1 (W64 ^ (m - 0)) s 0 y1 (by omega) h1 (by rw [← HY1.out, Nat.add_zero])
        have h4 : W64 ^ k = W64 * W64 ^ (m - 0) := by rw [HM.out, Nat.pow_succ, Nat.mul_comm]; rfl
        rw [h2, h4]
        simp only [valW]
        exact h3
      · have h1 := (how.out.store 0 y1 HY64.out)
        rw [set_top (by have := HKZ.out; omega)] at h1
        exact h1
set_option maxHeartbeats 1000000 in
theorem lsh_vu (B gz N cz k cz2 gx cx s : Nat) (zs xs : List Nat) (w : World) (hz : OW w B (.slice (some ⟨gz, 0, none⟩) N cz) zs) (hk : 1 ≤ k) (hkz : k ≤ zs.length) (hxl : xs.length = k) (hs0 : 0 < s) (hs : s < 64) (hnb : k ≤ 100000)
    (hx : ∀ W' zs' i, Only (· = gz) w W' → OW W' B (.slice (some ⟨gz, 0, none⟩) N cz) zs' → zs'.take i = zs.take i → ∀ j (h : j < xs.length), j < i → W'.cell? ⟨gx, j, none⟩ = some (.int .u64 ((xs[j]'h : Nat) : Int)))
    (hxb : ∀ x ∈ xs, x < W64) :
    Calls Tryz.prog 71 #[.slice (some ⟨gz, 0, none⟩) k cz2, .slice (some ⟨gx, 0, none⟩) k cx, .int .u64 (s : Int)] w (ShlPost B gz N cz k zs (fun c rs => valW rs + W64 ^ k * c = valW xs * 2 ^ s) w) := by
  have HC := Lib.hid (lsh_vu_g B gz N cz k cz2 gx cx s zs xs w hz hk hkz hxl hs0 hs hnb hx hxb)
  clear hz hxl hx hxb
  go_enter Tryz.func71, Tryz.ntmps71
  go_wp2_with fail
  refine HC.out.mono ?_
  rintro e w' ⟨c, rs, rfl, h1, h2, h3, h4⟩
  have H2 := Lib.hid h2
  have H3 := Lib.hid h3
  have H4 := Lib.hid h4
  clear h2 h3 h4
  go_wp2
  go_ret
  exact ⟨c, rs, rfl, h1, H2.out, H3.out, H4.out⟩
/-- What fnorm leaves: the words shifted until the top bit stands. -/
def NormedPost (B gz N cz : Nat) (ws : List Nat) (w : World) (e : Ending) (w' : World) : Prop :=
  ∃ ms : List Nat, e = .returned (.int .i64 ((64 - Lib.bitLen (ws.getLast?.getD 0) : Nat) : Int)) ∧ ms.length = ws.length ∧ valW ms = valW ws * 2 ^ (64 - Lib.bitLen (ws.getLast?.getD 0)) ∧ OW w' B (.slice (some ⟨gz, 0, none⟩) N cz) ms ∧ Only (· = gz) w w'
theorem top_nocarry (ws rs : List Nat) (c s k : Nat) (hw : ∀ x ∈ ws, x < W64) (hk : ws.length = k) (h0 : ws ≠ []) (hs : s = 64 - Lib.bitLen (ws.getLast?.getD 0)) (ht : TopNZ ws)
    (h : valW rs + W64 ^ k * c = valW ws * 2 ^ s) : valW rs = valW ws * 2 ^ s := by
  obtain ⟨init, last, rfl⟩ : ∃ init last, ws = init ++ [last] := ⟨ws.dropLast, ws.getLast h0, (List.dropLast_concat_getLast h0).symm⟩
  have hl0 : last ≠ 0 := by unfold TopNZ at ht; simpa using ht
  have hlw : last < W64 := hw last (by simp)
  have hb := bitLen_64 last hlw
  simp at hs hk
  have h1 : last < 2 ^ Lib.bitLen last := (bitLen_le last _ hlw).1 (Nat.le_refl _)
  have h2 : valW init < W64 ^ init.length := valW_lt init (fun x hx => hw x (by simp [hx]))
  rw [valW_append] at h
  rw [valW_append]
  simp only [valW, Nat.mul_zero, Nat.add_zero] at h ⊢
  have h3 : W64 = 2 ^ Lib.bitLen last * 2 ^ s := by rw [W64_two, ← Nat.pow_add]; congr 1; omega
  have hc : c = 0 := by
    have hp : 0 < 2 ^ s := Nat.pow_pos (by decide)
    have h4 : (valW init + W64 ^ init.length * last) + 1 ≤ W64 ^ init.length * 2 ^ Lib.bitLen last := by
      have h5 : W64 ^ init.length * (last + 1) ≤ W64 ^ init.length * 2 ^ Lib.bitLen last := Nat.mul_le_mul_left _ h1
      rw [Nat.mul_add, Nat.mul_one] at h5
      omega
    have h6 := Nat.mul_le_mul_right (2 ^ s) h4
    rw [Nat.add_mul, Nat.one_mul, Nat.mul_assoc, ← h3, ← Nat.pow_succ, show init.length.succ = k by omega] at h6
    rcases Nat.eq_zero_or_pos c with hc | hc
    · exact hc
    · have h7 : W64 ^ k * 1 ≤ W64 ^ k * c := Nat.mul_le_mul_left _ hc
      omega
  subst hc
  omega
end Go.Proofs.YtndeolcamgnmdaaGreatDoor
