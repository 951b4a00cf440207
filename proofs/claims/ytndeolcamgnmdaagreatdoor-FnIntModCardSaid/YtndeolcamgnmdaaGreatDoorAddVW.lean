/- A word added to words in a row. -/
import Derived.Test.YtndeolcamgnmdaaGreatDoorVecW
import Derived.StillTailTactics
set_option linter.unusedVariables false
set_option linter.unusedSimpArgs false
set_option linter.unnecessarySimpa false
namespace Go.Proofs.YtndeolcamgnmdaaGreatDoor
open Go.RowKit
set_option maxRecDepth 20000 in
theorem ptr_ne {W : World} {B gz N cz gx o ox : Nat} {zs : List Nat} (h : OW W B (.slice (some ⟨gz, 0, none⟩) N cz) zs) (hx : ∃ ca ta, W.heap[gx]? = some (.cells ca ta (0, 0))) (hne : gx ≠ gz) :
    (binOp .neq 109 (.pointer (some ⟨gz, o, none⟩)) (.pointer (some ⟨gx, ox, none⟩))).run Tryz.prog W = .ok (.bool true) W := by
  obtain ⟨ca, ta, hx⟩ := hx
  obtain ⟨j, hj, hj2⟩ := Option.map_eq_some_iff.1 (show (Tryz.prog.info? 83).map (·.size) = some 1 by kernel_rfl)
  rcases h.1.2 with ⟨h0, _⟩ | ⟨g, cap, cur, hv, hb, hh, _⟩
  · exact absurd h0 (by intro e; injection e with e1; cases e1)
  · injection hv with e1 e2 e3
    injection e1 with e1
    injection e1 with e1
    subst e1
    exact run_neq_ptr_other (P := Tryz.prog) W (tp := 109) (te := 83) (a := ⟨gz, o, none⟩) (b := ⟨gx, ox, none⟩) Tryz.underlying109 hj (by rw [hj2]; decide) (by intro e; injection e with e1; exact hne e1.symm) hh hx
theorem only_row {w W : World} {gz gx : Nat} (h : Only (· = gz) w W) (hne : gx ≠ gz) (hlt : gx < w.heap.size) (hx : ∃ ca ta, w.heap[gx]? = some (.cells ca ta (0, 0))) : ∃ ca ta, W.heap[gx]? = some (.cells ca ta (0, 0)) := by
  obtain ⟨ca, ta, hx⟩ := hx
  exact ⟨ca, ta, (h.block gx hlt hne).trans hx⟩
/-- What a word added to words in a row leaves. -/
def VecWPost (B gz N cz o k : Nat) (zs : List Nat) (P : Nat → List Nat → Prop) (w : World) (e : Ending) (w' : World) : Prop :=
  ∃ (c : Nat) (rs : List Nat), e = .returned (.int .u64 (c : Int)) ∧ c ≤ 1 ∧ rs.length = k ∧ P c rs ∧ OW w' B (.slice (some ⟨gz, 0, none⟩) N cz) (zs.take o ++ rs ++ zs.drop (o + k)) ∧ Only (· = gz) w w'
theorem set_in {zs rs : List Nat} {o i x : Nat} (hr : rs.length = i) (hi : o + i < zs.length) : (zs.take o ++ rs ++ zs.drop (o + i)).set (o + i) x = zs.take o ++ (rs ++ [x]) ++ zs.drop (o + (i + 1)) := by
  have hl : (zs.take o ++ rs).length = o + i := by simp; omega
  rw [set_mid (rs := zs.take o ++ rs) (zs := zs) hl hi]
  simp [Nat.add_assoc]
theorem take_in {zs rs : List Nat} {o i m : Nat} (hr : rs.length = i) (ho : o ≤ zs.length) (cs : List Nat) : (zs.take o ++ rs ++ zs.drop (o + i)).take (o + i) ++ cs ++ (zs.take o ++ rs ++ zs.drop (o + i)).drop (o + i + m) = zs.take o ++ (rs ++ cs) ++ zs.drop (o + i + m) := by
  have hl : (zs.take o ++ rs).length = o + i := by simp; omega
  rw [List.take_append_of_le_length (by omega), List.take_of_length_le (by omega), List.drop_append, List.drop_of_length_le (by omega), List.nil_append, List.drop_drop, hl]
  rw [show o + i + (o + i + m - (o + i)) = o + i + m by omega]
  simp
theorem OW.heap {w w' : World} {B : Nat} {v : Value} {l : List Nat} (h : OW w B v l) (e : w'.heap = w.heap) : OW w' B v l := by
  refine ⟨⟨h.1.1, ?_⟩, h.2⟩
  rcases h.1.2 with h0 | ⟨g, cap, cur, hv, hb, hh, hr⟩
  · exact .inl h0
  · exact .inr ⟨g, cap, cur, hv, hb, by rw [e]; exact hh, hr⟩
theorem src_from {w : World} {gz gx ox : Nat} {xs : List Nat} (hx : ∀ W', Only (· = gz) w W' → ∀ j (h : j < xs.length), W'.cell? ⟨gx, ox + j, none⟩ = some (.int .u64 ((xs[j]'h : Nat) : Int))) (t : Nat) :
    ∀ W', Only (· = gz) w W' → ∀ j (h : j < (xs.drop t).length), W'.cell? ⟨gx, ox + t + j, none⟩ = some (.int .u64 (((xs.drop t)[j]'h : Nat) : Int)) := fun W' hO j h => by
  have h2 : t + j < xs.length := by simp at h; omega
  have := hx W' hO (t + j) h2
  rw [Nat.add_assoc]
  simpa using this
theorem vec_fin {W : World} {B gz N cz o k t : Nat} {zs rs xs : List Nat} (hr : rs.length = t) (htk : t ≤ k) (ho : o + k ≤ zs.length) (hx : xs.length = k)
    (h : OW W B (.slice (some ⟨gz, 0, none⟩) N cz) ((zs.take o ++ rs ++ zs.drop (o + t)).take (o + t) ++ xs.drop t ++ (zs.take o ++ rs ++ zs.drop (o + t)).drop (o + t + (k - t)))) :
    OW W B (.slice (some ⟨gz, 0, none⟩) N cz) (zs.take o ++ (rs ++ xs.drop t) ++ zs.drop (o + k)) ∧ (rs ++ xs.drop t).length = k ∧ valW (rs ++ xs.drop t) = valW rs + W64 ^ t * valW (xs.drop t) := by
  rw [take_in hr (by omega), show o + t + (k - t) = o + k by omega] at h
  exact ⟨h, by simp; omega, by rw [valW_append, hr]⟩
theorem val_split (xs : List Nat) (t : Nat) (h : t ≤ xs.length) : valW xs = valW (xs.take t) + W64 ^ t * valW (xs.drop t) := by
  conv => lhs; rw [← List.take_append_drop t xs]
  rw [valW_append, List.length_take, Nat.min_eq_left h]
theorem add_fin {rs xs : List Nat} {t y : Nat} (ht : t ≤ xs.length) (h : valW rs = valW (xs.take t) + y) : valW rs + W64 ^ t * valW (xs.drop t) = valW xs + y := by
  rw [val_split xs t ht, h]; omega
theorem val_one (xs : List Nat) (h : 0 < xs.length) : valW (xs.take 1) = xs[0]'h := by
  cases xs with
  | nil => simp at h
  | cons a r => simp [valW]
set_option maxRecDepth 20000 in
set_option maxHeartbeats 4000000 in
theorem add_vw (B gz N cz o k cz2 gx ox cx : Nat) (zs xs : List Nat) (y : Nat) (w : World) (hz : OW w B (.slice (some ⟨gz, 0, none⟩) N cz) zs) (hk : 1 ≤ k) (hok : o + k ≤ zs.length) (hkz : k ≤ cz2) (hkx : k ≤ cx) (hxl : xs.length = k) (hnb : o + k ≤ 100000) (hob : ox + k ≤ 100000) (hy : y < W64) (hne : gx ≠ gz)
    (hx : ∀ W', Only (· = gz) w W' → ∀ j (h : j < xs.length), W'.cell? ⟨gx, ox + j, none⟩ = some (.int .u64 ((xs[j]'h : Nat) : Int))) (hxh : ∃ ca ta, w.heap[gx]? = some (.cells ca ta (0, 0))) (hxb : ∀ x ∈ xs, x < W64) :
    Calls Tryz.prog 59 #[.slice (some ⟨gz, o, none⟩) k cz2, .slice (some ⟨gx, ox, none⟩) k cx, .int .u64 (y : Int)] w (VecWPost B gz N cz o k zs (fun c rs => valW rs + W64 ^ k * c = valW xs + y) w) := by
  have HZ := Lib.hid hz
  have HXL := Lib.hid hxl
  have HX := Lib.hid hx
  have HXB := Lib.hid hxb
  have hgx : gx < w.heap.size := by obtain ⟨_, _, h⟩ := hxh; exact (Array.getElem?_eq_some_iff.1 h).1
  have hgz : gz < w.heap.size := (hz.1.lt _ rfl).2
  have HPN : Hid (∀ W' zs', Only (· = gz) w W' → OW W' B (.slice (some ⟨gz, 0, none⟩) N cz) zs' → ∀ W, W.heap = W'.heap → (binOp .neq 109 (.pointer (some ⟨gz, o, none⟩)) (.pointer (some ⟨gx, ox, none⟩))).run Tryz.prog W = .ok (.bool true) W) := fun W' zs' hO how W hW => by
    refine ptr_ne (B := B) (N := N) (cz := cz) (zs := zs') ?_ ?_ hne
    · refine ⟨⟨how.1.1, ?_⟩, how.2⟩
      rcases how.1.2 with h0 | ⟨g, cap, cur, hv, hb, hh, hr⟩
      · exact .inl h0
      · exact .inr ⟨g, cap, cur, hv, hb, by rw [hW]; exact hh, hr⟩
    · rw [hW]; exact only_row hO hne hgx hxh
  have h00 : 0 < xs.length := by omega
  obtain ⟨x0, hx0⟩ : ∃ x0, x0 = xs[0]'h00 := ⟨_, rfl⟩
  have cx0 := HX.out w (Only.refl _ _) 0 h00
  rw [← hx0, Nat.add_zero] at cx0
  have hz0 : o < zs.length := by omega
  have cz0 := hz.cell o hz0
  have fz0 := hz.free o
  have hx64 : x0 < W64 := by rw [hx0]; exact hxb _ (List.getElem_mem _)
  obtain ⟨s, hs⟩ : ∃ s, s = x0 + y + 0 := ⟨_, rfl⟩
  have HADD := Lib.hid (fun W => bits_add x0 y 0 (by omega) W)
  rw [← hs, show ((0 : Nat) : Int) = 0 from rfl] at HADD
  obtain ⟨r, hr⟩ : ∃ r, r = s % W64 := ⟨_, rfl⟩
  obtain ⟨d, hd⟩ : ∃ d, d = s / W64 := ⟨_, rfl⟩
  rw [← hr, ← hd] at HADD
  have hr64 : r < W64 := by rw [hr]; exact Nat.mod_lt _ W64_pos
  have hd1 : d = 0 ∨ d = 1 := by
    have : s / W64 < 2 := (Nat.div_lt_iff_lt_mul W64_pos).2 (by omega)
    omega
  have HST : Hid (r + W64 * d = x0 + y) := by
    unfold Hid
    have := Nat.div_add_mod s W64
    rw [hr, hd]; omega
  have hpos : (0 : Int) < (k : Int) := by omega
  have hkn : ((k : Int) == 0) = false := by rw [beq_eq_false_iff_ne]; omega
  have how1 := hz.store o r hr64
  have hO1 := (Only.refl (· = gz) w).setCell (p := ⟨gz, o, none⟩) (.inl rfl) (.int .u64 (r : Int))
  have hpn1 := fun q => HPN.out _ _ hO1 how1 ((w.setCell ⟨gz, o, none⟩ (.int .u64 (r : Int))).drewN q) rfl
  have HX0 := Lib.hid hx0
  have HO1 := Lib.hid hO1
  have HOW1 : Hid (OW (w.setCell ⟨gz, o, none⟩ (.int .u64 (r : Int))) B (.slice (some ⟨gz, 0, none⟩) N cz) (zs.take o ++ [r] ++ zs.drop (o + 1))) := by
    have := set_in (rs := []) (x := r) (i := 0) (o := o) (zs := zs) rfl (by omega)
    simp at this
    simpa [Hid, this] using how1
  have HNE := Lib.hid hne
  have HR64 := Lib.hid hr64
  clear hz hxl hx hxb hx0 hs hr hd hx64 hr64 hO1 how1 hxh hne hy
  rcases hd1 with rfl | rfl
  · obtain ⟨AZ, hAZ, hAZ2⟩ := vec_from_at gz o k cz2 1 hk hkz
    obtain ⟨AX, hAX, hAX2⟩ := vec_from_at gx ox k cx 1 hk hkx
    have HAZ := Lib.hid hAZ2
    have HAX := Lib.hid hAX2
    rw [show ((1 : Nat) : Int) = 1 from rfl] at hAZ hAX
    rw [show ((0 : Nat) : Int) = 0 from rfl] at HADD
    clear hAZ2 hAX2
    go_enter Tryz.func59, Tryz.ntmps59
    go_wp2_with fail
    refine (HADD.out _).mono ?_
    rintro e w' ⟨rfl, rfl⟩
    go_wp2_with fail
    go_quiet (fail)
    go_wp2_with fail
    have HSRC := Lib.hid (src_from HX.out 1)
    have hcl : (xs.drop 1).length = k - 1 := by have := HXL.out; simp; omega
    have hfit : o + 1 + (k - 1) ≤ (zs.take o ++ [r] ++ zs.drop (o + 1)).length := by simp; omega
    have hcs : ∀ x ∈ xs.drop 1, x < W64 := fun x hx => HXB.out x (List.mem_of_mem_drop hx)
    have HCL := Lib.hid hcl
    have HFT := Lib.hid hfit
    have HCS := Lib.hid hcs
    clear hcl hfit hcs
    go_region_law ((refine step_copy_ow rfl (.tmp 40) (.tmp 42) rfl AZ AX (k - 1) _ _ rfl rfl B gz N cz (o + 1) gx (ox + 1) _ (xs.drop 1) (HOW1.out.heap rfl) HCL.out HAZ.out HAX.out (HSRC.out _ ((HO1.out.drewN _).drew)) HFT.out HCS.out ?_; intro w4 how4 hO4))
    all_goals
      have hf := vec_fin (rs := [r]) (t := 1) rfl hk hok HXL.out how4
      have HF := Lib.hid hf
      have HO4 := Lib.hid (((HO1.out.drewN _).drew).trans hO4)
      clear hf how4 hO4
      go_wp2
      go_ret
      exact ⟨0, [r] ++ xs.drop 1, rfl, by omega, HF.out.2.1, by
        show valW _ + W64 ^ k * 0 = _
        rw [HF.out.2.2, Nat.mul_zero, Nat.add_zero]
        refine add_fin (by have := HXL.out; omega) ?_
        have := HST.out
        rw [val_one _ h00, ← HX0.out]
        simp [valW]
        omega, HF.out.1, HO4.out⟩
  · rw [show ((1 : Nat) : Int) = 1 from rfl] at HADD
    go_enter Tryz.func59, Tryz.ntmps59
    go_wp2_with fail
    refine (HADD.out _).mono ?_
    rintro e w' ⟨rfl, rfl⟩
    go_wp2_with fail
    go_loopw [9] (fun iv wr => ∃ (i : Nat) (rs : List Nat), 1 ≤ i ∧ i ≤ k ∧ iv = .int .i64 (i : Int) ∧ Hid (rs.length = i) ∧ Hid (valW rs + W64 ^ i = valW (xs.take i) + y) ∧ Hid (OW wr B (.slice (some ⟨gz, 0, none⟩) N cz) (zs.take o ++ rs ++ zs.drop (o + i))) ∧ Hid (Only (· = gz) w wr))
      (fun iv _ => k - (intOf iv).toNat)
    case atStart => exact ⟨1, [r], by omega, hk, rfl, rfl, by unfold Hid; rw [val_one _ h00, ← HX0.out]; have := HST.out; simp [valW]; omega, HOW1.out, HO1.out⟩
    case round =>
      obtain ⟨i, rs, hi1, hik, rfl, hrl, hval, how, hO⟩ := hrel
      by_cases hin : i < k
      · have hix : i < xs.length := by rw [HXL.out]; exact hin
        obtain ⟨x, hxd⟩ : ∃ x, x = xs[i]'hix := ⟨_, rfl⟩
        have cx1 := HX.out _ hO.out i hix
        rw [← hxd] at cx1
        have hx64 : x < W64 := by rw [hxd]; exact HXB.out _ (List.getElem_mem hix)
        have hzi : o + i < (zs.take o ++ rs ++ zs.drop (o + i)).length := by have := hrl.out; simp; omega
        have cz1 := how.out.cell (o + i) hzi
        have fz1 := how.out.free (o + i)
        have hgr : gz < wr.heap.size := Nat.lt_of_lt_of_le hgz hO.out.size
        have hin' : (i : Int) < (k : Int) := by omega
        have htk : valW (xs.take (i + 1)) = valW (xs.take i) + W64 ^ i * x := by
          rw [List.take_succ_eq_append_getElem hix, valW_append, List.length_take, Nat.min_eq_left (by omega), ← hxd]; simp [valW]
        by_cases hmax : x = 18446744073709551615
        · have hq : ((x : Int) != 18446744073709551615) = false := by rw [hmax]; rfl
          have HTK : Hid (valW (rs ++ [0]) + W64 ^ (i + 1) = valW (xs.take (i + 1)) + y) := by
            unfold Hid
            have h1 := hval.out
            rw [htk, valW_append, hrl.out, Nat.pow_succ, hmax]
            have h2 : W64 ^ i * W64 = W64 ^ i * 18446744073709551615 + W64 ^ i := by unfold W64; omega
            rw [h2]
            simp [valW]
            omega
          clear hxd hx64 htk hmax hval
          go_wp2
          go_roundw
          case rel =>
            refine ⟨i + 1, rs ++ [0], by omega, by omega, by go_num, by simp [Hid, hrl.out], HTK.out, ?_, hO.out.setCell (p := ⟨gz, o + i, none⟩) (.inl rfl) _⟩
            exact (set_in (x := 0) hrl.out (show o + i < zs.length by omega)) ▸ how.out.store (o + i) 0 W64_pos
          case measure => simp [intOf]; omega
        · have hq : ((x : Int) != 18446744073709551615) = true := by rw [bne_iff_ne]; omega
          have hx1 : x + 1 < W64 := by unfold W64 at hx64 ⊢; omega
          obtain ⟨x', hx'⟩ : ∃ x', x' = x + 1 := ⟨_, rfl⟩
          have hxw : IntKind.u64.wrap ((x : Int) + 1) = (x' : Int) := by rw [wrap64_small _ (by omega) (by unfold W64 at hx1; omega)]; omega
          have HTK : Hid (valW (rs ++ [x']) = valW (xs.take (i + 1)) + y) := by
            unfold Hid
            have h1 := hval.out
            rw [htk, valW_append, hrl.out, hx', valW, valW, Nat.mul_zero, Nat.add_zero, Nat.mul_add, Nat.mul_one]
            omega
          have how2 : OW (wr.setCell ⟨gz, o + i, none⟩ (.int .u64 (x' : Int))) B (.slice (some ⟨gz, 0, none⟩) N cz) (zs.take o ++ (rs ++ [x']) ++ zs.drop (o + (i + 1))) := (set_in (x := x') hrl.out (show o + i < zs.length by omega)) ▸ how.out.store (o + i) x' (by omega)
          have hO2 := hO.out.setCell (p := ⟨gz, o + i, none⟩) (.inl rfl) (.int .u64 (x' : Int))
          have hpn2 := fun q => HPN.out _ _ hO2 how2 ((wr.setCell ⟨gz, o + i, none⟩ (.int .u64 (x' : Int))).drewN q) rfl
          obtain ⟨AZ, hAZ, hAZ2⟩ := vec_from_at gz o k cz2 (i + 1) (by omega) hkz
          obtain ⟨AX, hAX, hAX2⟩ := vec_from_at gx ox k cx (i + 1) (by omega) hkx
          obtain ⟨m1, hm1⟩ : ∃ m, m = k - (i + 1) := ⟨_, rfl⟩
          obtain ⟨q1, hq1⟩ : ∃ q, q = cz2 - (i + 1) := ⟨_, rfl⟩
          obtain ⟨q2, hq2⟩ : ∃ q, q = cx - (i + 1) := ⟨_, rfl⟩
          rw [← hm1] at hAZ2 hAX2
          have HAZ := Lib.hid hAZ2
          have HAX := Lib.hid hAX2
          rw [show ((i + 1 : Nat) : Int) = (i : Int) + 1 by omega, ← hm1] at hAZ hAX
          rw [← hq1] at hAZ
          rw [← hq2] at hAX
          have HOW2 := Lib.hid how2
          have HO2 := Lib.hid hO2
          have HSRC := Lib.hid (src_from HX.out (i + 1))
          have HCL : Hid ((xs.drop (i + 1)).length = m1) := by unfold Hid; have := HXL.out; simp; omega
          have HRL : Hid ((rs ++ [x']).length = i + 1) := by simp [Hid, hrl.out]
          have HFT : Hid (o + (i + 1) + m1 ≤ (zs.take o ++ (rs ++ [x']) ++ zs.drop (o + (i + 1))).length) := by unfold Hid; have := HRL.out; simp at this ⊢; omega
          have HCS : Hid (∀ x ∈ xs.drop (i + 1), x < W64) := fun x hx => HXB.out x (List.mem_of_mem_drop hx)
          have HM1 := Lib.hid hm1
          clear hm1 hq1 hq2 hxd hx64 htk hmax hval hx1 hx' how2 hO2 hAZ2 hAX2
          go_wp2_with fail
          go_quiet (fail)
          go_wp2_with fail
          have hw1 : IntKind.i64.wrap ((i : Int) + 1) = (i : Int) + 1 := wrap_i64_mid _ (by omega) (by omega)
          go_still_tail 8, (by kernel_rfl)
          clear hw1
          refine wpList_copy_ow rfl (.tmp 69) (.tmp 73) rfl AZ AX m1 q1 q2 rfl rfl B gz N cz (o + (i + 1)) gx (ox + (i + 1)) _ (xs.drop (i + 1)) (HOW2.out.heap rfl) HCL.out HAZ.out HAX.out (HSRC.out _ ((HO2.out.drewN _).drew)) HFT.out HCS.out ?_
          intro w4 how4 hO4
          all_goals
            rw [HM1.out] at how4
            have hf := vec_fin (rs := rs ++ [x']) (t := i + 1) HRL.out (by omega) hok HXL.out how4
            have HF := Lib.hid hf
            have HO4 := Lib.hid (((HO2.out.drewN _).drew).trans hO4)
            clear hf how4 hO4
            go_wp2
            go_ret
            exact ⟨0, rs ++ [x'] ++ xs.drop (i + 1), rfl, by omega, HF.out.2.1, by
              show valW _ + W64 ^ k * 0 = _
              rw [HF.out.2.2, Nat.mul_zero, Nat.add_zero]
              exact add_fin (by have := HXL.out; omega) HTK.out, HF.out.1, HO4.out⟩
      · obtain rfl : i = k := by omega
        go_wp2
        go_ret
        exact ⟨1, rs, rfl, Nat.le_refl _, hrl.out, by
          have := hval.out
          rw [List.take_of_length_le (by have := HXL.out; omega)] at this
          show valW rs + W64 ^ i * 1 = _
          rw [Nat.mul_one]; exact this, how.out, hO.out⟩
end Go.Proofs.YtndeolcamgnmdaaGreatDoor
