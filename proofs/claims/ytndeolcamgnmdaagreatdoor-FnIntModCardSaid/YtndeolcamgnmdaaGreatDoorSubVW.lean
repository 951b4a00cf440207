/- A word taken from words in a row. -/
import Derived.Test.YtndeolcamgnmdaaGreatDoorAddVW
set_option linter.unusedVariables false
set_option linter.unusedSimpArgs false
set_option linter.unnecessarySimpa false
namespace Go.Proofs.YtndeolcamgnmdaaGreatDoor
open Go.RowKit
theorem sub_fin {rs xs : List Nat} {t y : Nat} (ht : t ≤ xs.length) (h : valW rs + y = valW (xs.take t)) : valW rs + W64 ^ t * valW (xs.drop t) + y = valW xs := by
  rw [val_split xs t ht, ← h]; omega
set_option maxRecDepth 20000 in
set_option maxHeartbeats 4000000 in
theorem sub_vw (B gz N cz o k cz2 gx ox cx : Nat) (zs xs : List Nat) (y : Nat) (w : World) (hz : OW w B (.slice (some ⟨gz, 0, none⟩) N cz) zs) (hk : 1 ≤ k) (hok : o + k ≤ zs.length) (hkz : k ≤ cz2) (hkx : k ≤ cx) (hxl : xs.length = k) (hnb : o + k ≤ 100000) (hob : ox + k ≤ 100000) (hy : y < W64) (hne : gx ≠ gz)
    (hx : ∀ W', Only (· = gz) w W' → ∀ j (h : j < xs.length), W'.cell? ⟨gx, ox + j, none⟩ = some (.int .u64 ((xs[j]'h : Nat) : Int))) (hxh : ∃ ca ta, w.heap[gx]? = some (.cells ca ta (0, 0))) (hxb : ∀ x ∈ xs, x < W64) :
    Calls Tryz.prog 61 #[.slice (some ⟨gz, o, none⟩) k cz2, .slice (some ⟨gx, ox, none⟩) k cx, .int .u64 (y : Int)] w (VecWPost B gz N cz o k zs (fun c rs => valW rs + y = valW xs + W64 ^ k * c) w) := by
  have HZ := Lib.hid hz
  have HXL := Lib.hid hxl
  have HX := Lib.hid hx
  have HXB := Lib.hid hxb
  have hgx : gx < w.heap.size := by obtain ⟨_, _, h⟩ := hxh; exact (Array.getElem?_eq_some_iff.1 h).1
  have hgz : gz < w.heap.size := (hz.1.lt _ rfl).2
  have HPN : Hid (∀ W' zs', Only (· = gz) w W' → OW W' B (.slice (some ⟨gz, 0, none⟩) N cz) zs' → ∀ W, W.heap = W'.heap → (binOp .neq 109 (.pointer (some ⟨gz, o, none⟩)) (.pointer (some ⟨gx, ox, none⟩))).run Tryz.prog W = .ok (.bool true) W) := fun W' zs' hO how W hW => by
    refine ptr_ne (B := B) (N := N) (cz := cz) (zs := zs') ?_ ?_ hne
    · refine ⟨⟨how.1.1, ?_⟩, how.2⟩
      rcases how.1.2 with h0 | ⟨g, cap, cur, hv, hb, hh, hr⟩
      · exact .inl h0
      · exact .inr ⟨g, cap, cur, hv, hb, by rw [hW]; exact hh, hr⟩
    · rw [hW]; exact only_row hO hne hgx hxh
  have h00 : 0 < xs.length := by omega
  obtain ⟨x0, hx0⟩ : ∃ x0, x0 = xs[0]'h00 := ⟨_, rfl⟩
  have cx0 := HX.out w (Only.refl _ _) 0 h00
  rw [← hx0, Nat.add_zero] at cx0
  have hz0 : o < zs.length := by omega
  have cz0 := hz.cell o hz0
  have fz0 := hz.free o
  have hx64 : x0 < W64 := by rw [hx0]; exact hxb _ (List.getElem_mem _)
  have HADD := Lib.hid (fun W => bits_sub x0 y 0 hx64 hy (by omega) W)
  rw [show ((0 : Nat) : Int) = 0 from rfl] at HADD
  obtain ⟨r, hr⟩ : ∃ r, r = (x0 + W64 - y - 0) % W64 := ⟨_, rfl⟩
  obtain ⟨d, hd⟩ : ∃ d, d = bor x0 y 0 := ⟨_, rfl⟩
  rw [← hr, ← hd] at HADD
  have hr64 : r < W64 := by rw [hr]; exact Nat.mod_lt _ W64_pos
  have hd1 : d = 0 ∨ d = 1 := by rw [hd]; unfold bor; split <;> omega
  have HST : Hid (r + y = x0 + W64 * d) := by
    unfold Hid
    have := sub_step 0 0 0 0 0 x0 y hx64 hy (by omega) rfl
    simp at this
    rw [hr, hd]
    simpa using this
  have hpos : (0 : Int) < (k : Int) := by omega
  have hkn : ((k : Int) == 0) = false := by rw [beq_eq_false_iff_ne]; omega
  have how1 := hz.store o r hr64
  have hO1 := (Only.refl (· = gz) w).setCell (p := ⟨gz, o, none⟩) (.inl rfl) (.int .u64 (r : Int))
  have hpn1 := fun q => HPN.out _ _ hO1 how1 ((w.setCell ⟨gz, o, none⟩ (.int .u64 (r : Int))).drewN q) rfl
  have HX0 := Lib.hid hx0
  have HO1 := Lib.hid hO1
  have HOW1 : Hid (OW (w.setCell ⟨gz, o, none⟩ (.int .u64 (r : Int))) B (.slice (some ⟨gz, 0, none⟩) N cz) (zs.take o ++ [r] ++ zs.drop (o + 1))) := by
    have := set_in (rs := []) (x := r) (i := 0) (o := o) (zs := zs) rfl (by omega)
    simp at this
    simpa [Hid, this] using how1
  have HNE := Lib.hid hne
  have HR64 := Lib.hid hr64
  clear hz hxl hx hxb hx0 hr hd hx64 hr64 hO1 how1 hxh hne hy
  rcases hd1 with rfl | rfl
  · obtain ⟨AZ, hAZ, hAZ2⟩ := vec_from_at gz o k cz2 1 hk hkz
    obtain ⟨AX, hAX, hAX2⟩ := vec_from_at gx ox k cx 1 hk hkx
    have HAZ := Lib.hid hAZ2
    have HAX := Lib.hid hAX2
    rw [show ((1 : Nat) : Int) = 1 from rfl] at hAZ hAX
    rw [show ((0 : Nat) : Int) = 0 from rfl] at HADD
    clear hAZ2 hAX2
    go_enter Tryz.func61, Tryz.ntmps61
    go_wp2_with fail
    refine (HADD.out _).mono ?_
    rintro e w' ⟨rfl, rfl⟩
    go_wp2_with fail
    go_quiet (fail)
    go_wp2_with fail
    have HSRC := Lib.hid (src_from HX.out 1)
    have hcl : (xs.drop 1).length = k - 1 := by have := HXL.out; simp; omega
    have hfit : o + 1 + (k - 1) ≤ (zs.take o ++ [r] ++ zs.drop (o + 1)).length := by simp; omega
    have hcs : ∀ x ∈ xs.drop 1, x < W64 := fun x hx => HXB.out x (List.mem_of_mem_drop hx)
    have HCL := Lib.hid hcl
    have HFT := Lib.hid hfit
    have HCS := Lib.hid hcs
    clear hcl hfit hcs
    go_region_law ((refine step_copy_ow rfl (.tmp 40) (.tmp 42) rfl AZ AX (k - 1) _ _ rfl rfl B gz N cz (o + 1) gx (ox + 1) _ (xs.drop 1) (HOW1.out.heap rfl) HCL.out HAZ.out HAX.out (HSRC.out _ ((HO1.out.drewN _).drew)) HFT.out HCS.out ?_; intro w4 how4 hO4))
    all_goals
      have hf := vec_fin (rs := [r]) (t := 1) rfl hk hok HXL.out how4
      have HF := Lib.hid hf
      have HO4 := Lib.hid (((HO1.out.drewN _).drew).trans hO4)
      clear hf how4 hO4
      go_wp2
      go_ret
      exact ⟨0, [r] ++ xs.drop 1, rfl, by omega, HF.out.2.1, by
        show valW _ + y = _ + W64 ^ k * 0
        rw [HF.out.2.2, Nat.mul_zero, Nat.add_zero]
        refine sub_fin (by have := HXL.out; omega) ?_
        have := HST.out
        rw [val_one _ h00, ← HX0.out]
        simp [valW]
        omega, HF.out.1, HO4.out⟩
  · rw [show ((1 : Nat) : Int) = 1 from rfl] at HADD
    go_enter Tryz.func61, Tryz.ntmps61
    go_wp2_with fail
    refine (HADD.out _).mono ?_
    rintro e w' ⟨rfl, rfl⟩
    go_wp2_with fail
    go_loopw [9] (fun iv wr => ∃ (i : Nat) (rs : List Nat), 1 ≤ i ∧ i ≤ k ∧ iv = .int .i64 (i : Int) ∧ Hid (rs.length = i) ∧ Hid (valW rs + y = valW (xs.take i) + W64 ^ i) ∧ Hid (OW wr B (.slice (some ⟨gz, 0, none⟩) N cz) (zs.take o ++ rs ++ zs.drop (o + i))) ∧ Hid (Only (· = gz) w wr))
      (fun iv _ => k - (intOf iv).toNat)
    case atStart => exact ⟨1, [r], by omega, hk, rfl, rfl, by unfold Hid; rw [val_one _ h00, ← HX0.out]; have := HST.out; simp [valW]; omega, HOW1.out, HO1.out⟩
    case round =>
      obtain ⟨i, rs, hi1, hik, rfl, hrl, hval, how, hO⟩ := hrel
      by_cases hin : i < k
      · have hix : i < xs.length := by rw [HXL.out]; exact hin
        obtain ⟨x, hxd⟩ : ∃ x, x = xs[i]'hix := ⟨_, rfl⟩
        have cx1 := HX.out _ hO.out i hix
        rw [← hxd] at cx1
        have hx64 : x < W64 := by rw [hxd]; exact HXB.out _ (List.getElem_mem hix)
        have hzi : o + i < (zs.take o ++ rs ++ zs.drop (o + i)).length := by have := hrl.out; simp; omega
        have cz1 := how.out.cell (o + i) hzi
        have fz1 := how.out.free (o + i)
        have hgr : gz < wr.heap.size := Nat.lt_of_lt_of_le hgz hO.out.size
        have hin' : (i : Int) < (k : Int) := by omega
        have htk : valW (xs.take (i + 1)) = valW (xs.take i) + W64 ^ i * x := by
          rw [List.take_succ_eq_append_getElem hix, valW_append, List.length_take, Nat.min_eq_left (by omega), ← hxd]; simp [valW]
        by_cases hmax : x = 0
        · have hq : ((x : Int) != 0) = false := by rw [hmax]; rfl
          have HTK : Hid (valW (rs ++ [18446744073709551615]) + y = valW (xs.take (i + 1)) + W64 ^ (i + 1)) := by
            unfold Hid
            have h1 := hval.out
            rw [htk, valW_append, hrl.out, Nat.pow_succ, hmax]
            have h2 : W64 ^ i * W64 = W64 ^ i * 18446744073709551615 + W64 ^ i := by unfold W64; omega
            rw [h2]
            simp [valW]
            omega
          clear hxd hx64 htk hmax hval
          go_wp2
          go_roundw
          case rel =>
            refine ⟨i + 1, rs ++ [18446744073709551615], by omega, by omega, by go_num, by simp [Hid, hrl.out], HTK.out, ?_, hO.out.setCell (p := ⟨gz, o + i, none⟩) (.inl rfl) _⟩
            exact (set_in (x := 18446744073709551615) hrl.out (show o + i < zs.length by omega)) ▸ how.out.store (o + i) 18446744073709551615 (by unfold W64; omega)
          case measure => simp [intOf]; omega
        · have hq : ((x : Int) != 0) = true := by rw [bne_iff_ne]; omega
          obtain ⟨x', hx'⟩ : ∃ x', x = x' + 1 := ⟨x - 1, by omega⟩
          have hx1 : x' < W64 := by omega
          have hxw : IntKind.u64.wrap (x' : Int) = (x' : Int) := wrap64_small _ (by omega) (by unfold W64 at hx64; omega)
          have hxw2 : (x : Int) - 1 = (x' : Int) := by omega
          have HTK : Hid (valW (rs ++ [x']) + y = valW (xs.take (i + 1))) := by
            unfold Hid
            have h1 := hval.out
            rw [htk, valW_append, hrl.out, hx', valW, valW, Nat.mul_zero, Nat.add_zero, Nat.mul_add, Nat.mul_one]
            omega
          have how2 : OW (wr.setCell ⟨gz, o + i, none⟩ (.int .u64 (x' : Int))) B (.slice (some ⟨gz, 0, none⟩) N cz) (zs.take o ++ (rs ++ [x']) ++ zs.drop (o + (i + 1))) := (set_in (x := x') hrl.out (show o + i < zs.length by omega)) ▸ how.out.store (o + i) x' (by omega)
          have hO2 := hO.out.setCell (p := ⟨gz, o + i, none⟩) (.inl rfl) (.int .u64 (x' : Int))
          have hpn2 := fun q => HPN.out _ _ hO2 how2 ((wr.setCell ⟨gz, o + i, none⟩ (.int .u64 (x' : Int))).drewN q) rfl
          obtain ⟨AZ, hAZ, hAZ2⟩ := vec_from_at gz o k cz2 (i + 1) (by omega) hkz
          obtain ⟨AX, hAX, hAX2⟩ := vec_from_at gx ox k cx (i + 1) (by omega) hkx
          obtain ⟨m1, hm1⟩ : ∃ m, m = k - (i + 1) := ⟨_, rfl⟩
          obtain ⟨q1, hq1⟩ : ∃ q, q = cz2 - (i + 1) := ⟨_, rfl⟩
          obtain ⟨q2, hq2⟩ : ∃ q, q = cx - (i + 1) := ⟨_, rfl⟩
          rw [← hm1] at hAZ2 hAX2
          have HAZ := Lib.hid hAZ2
          have HAX := Lib.hid hAX2
          rw [show ((i + 1 : Nat) : Int) = (i : Int) + 1 by omega, ← hm1] at hAZ hAX
          rw [← hq1] at hAZ
          rw [← hq2] at hAX
          have HOW2 := Lib.hid how2
          have HO2 := Lib.hid hO2
          have HSRC := Lib.hid (src_from HX.out (i + 1))
          have HCL : Hid ((xs.drop (i + 1)).length = m1) := by unfold Hid; have := HXL.out; simp; omega
          have HRL : Hid ((rs ++ [x']).length = i + 1) := by simp [Hid, hrl.out]
          have HFT : Hid (o + (i + 1) + m1 ≤ (zs.take o ++ (rs ++ [x']) ++ zs.drop (o + (i + 1))).length) := by unfold Hid; have := HRL.out; simp at this ⊢; omega
          have HCS : Hid (∀ x ∈ xs.drop (i + 1), x < W64) := fun x hx => HXB.out x (List.mem_of_mem_drop hx)
          have HM1 := Lib.hid hm1
          clear hm1 hq1 hq2 hxd hx64 htk hmax hval hx1 hx' how2 hO2 hAZ2 hAX2
          go_wp2_with fail
          go_quiet (fail)
          go_wp2_with fail
          have hw1 : IntKind.i64.wrap ((i : Int) + 1) = (i : Int) + 1 := wrap_i64_mid _ (by omega) (by omega)
          go_still_tail 8, (by kernel_rfl)
          clear hw1
          refine wpList_copy_ow rfl (.tmp 69) (.tmp 73) rfl AZ AX m1 q1 q2 rfl rfl B gz N cz (o + (i + 1)) gx (ox + (i + 1)) _ (xs.drop (i + 1)) (HOW2.out.heap rfl) HCL.out HAZ.out HAX.out (HSRC.out _ ((HO2.out.drewN _).drew)) HFT.out HCS.out ?_
          intro w4 how4 hO4
          all_goals
            rw [HM1.out] at how4
            have hf := vec_fin (rs := rs ++ [x']) (t := i + 1) HRL.out (by omega) hok HXL.out how4
            have HF := Lib.hid hf
            have HO4 := Lib.hid (((HO2.out.drewN _).drew).trans hO4)
            clear hf how4 hO4
            go_wp2
            go_ret
            exact ⟨0, rs ++ [x'] ++ xs.drop (i + 1), rfl, by omega, HF.out.2.1, by
              show valW _ + y = _ + W64 ^ k * 0
              rw [HF.out.2.2, Nat.mul_zero, Nat.add_zero]
              exact sub_fin (by have := HXL.out; omega) HTK.out, HF.out.1, HO4.out⟩
      · obtain rfl : i = k := by omega
        go_wp2
        go_ret
        exact ⟨1, rs, rfl, Nat.le_refl _, hrl.out, by
          have := hval.out
          rw [List.take_of_length_le (by have := HXL.out; omega)] at this
          show valW rs + y = _ + W64 ^ i * 1
          rw [Nat.mul_one]; exact this, how.out, hO.out⟩
end Go.Proofs.YtndeolcamgnmdaaGreatDoor
