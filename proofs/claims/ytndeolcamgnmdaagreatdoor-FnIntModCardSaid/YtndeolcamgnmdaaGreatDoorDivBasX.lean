/- The long division: the walk. -/
import Derived.Test.YtndeolcamgnmdaaGreatDoorDivBasP
import Derived.StillTailTactics
import Derived.Deep.DeepCutAuto
set_option linter.unusedVariables false
set_option linter.unusedSimpArgs false
set_option linter.unnecessarySimpa false
namespace Go.Proofs.YtndeolcamgnmdaaGreatDoor
open Go.RowKit
set_option maxRecDepth 20000 in
set_option maxHeartbeats 4000000 in
theorem div_basic (B gq cq gu cu gv ov cv st l m n v1 v2 t : Nat) (D : Option (Nat × Nat × Nat)) (us vs qs : List Nat) (w : World)
    (hst : StkS w st l D) (hl : l ≤ 200) (hq : RowB w gq cq) (hqw : WA w gq 0 qs) (hql : qs.length = m) (hqW : ∀ x ∈ qs, x < W64) (hu : RowB w gu cu) (huw : WA w gu 0 us) (hul : us.length = m + n) (huW : ∀ x ∈ us, x < W64)
    (hv : WA w gv ov vs) (hvl : vs.length = n) (hvW : ∀ x ∈ vs, x < W64) (hn1 : 2 ≤ n) (hn2 : n ≤ 50) (hm1 : 1 ≤ m) (hm2 : m ≤ 50) (hmq : m ≤ cq) (hmu : m + n ≤ cu)
    (hv1 : vs[n - 1]? = some v1) (hv2 : vs[n - 2]? = some v2) (hv1n : 9223372036854775808 ≤ v1) (ht : us[m + n - 1]? = some t) (htv : t < v1)
    (hqu : gq ≠ gu) (hvu : gv ≠ gu) (hvq : gv ≠ gq) (hsu : st ≠ gu) (hsq : st ≠ gq) (hsv : st ≠ gv) (hD : ∀ si gr c, D = some (si, gr, c) → B ≤ si ∧ B ≤ gr ∧ si ≠ gu ∧ si ≠ gq ∧ si ≠ gv ∧ gr ≠ gu ∧ gr ≠ gq ∧ (gr = gv → ov + n ≤ l)) (hBs : B ≤ st) (hBu : B ≤ gu) (hBq : B ≤ gq) (hBw : B ≤ w.heap.size) :
    Calls Tryz.prog 73 #[.slice (some ⟨gq, 0, none⟩) m cq, .pointer (some ⟨st, 0, none⟩), .slice (some ⟨gu, 0, none⟩) ((m + n : Nat)) cu, .slice (some ⟨gv, ov, none⟩) n cv] w (DBPost B gu cu gq cq st l n m (valW vs) us w) := by
  obtain ⟨mn, hmn⟩ : ∃ mn, mn = m + n := ⟨_, rfl⟩
  rw [← hmn]
  have hsub : (mn : Int) - (n : Int) = (m : Int) := by omega
  obtain ⟨n1, hn1e⟩ : ∃ n1 : Nat, (n : Int) + 1 = (n1 : Int) ∧ n1 = n + 1 := ⟨n + 1, by omega, rfl⟩
  have hn1i := hn1e.1
  obtain ⟨nm, hnm⟩ : ∃ nm : Nat, (n : Int) - 1 = (nm : Int) ∧ nm = n - 1 := ⟨n - 1, by omega, rfl⟩
  have hnmi := hnm.1
  have hnmn : (nm : Int) < (n : Int) := by omega
  have HSV := Lib.hid (stk_save st l D w hst)
  have HNAT : Hid (Calls Tryz.prog 70 #[.pointer (some ⟨st, 0, none⟩), .int .i64 (n1 : Int)] w (NatPost st n1 l D w)) := by
    rcases hst with ⟨h1, h2, h3⟩ | ⟨si, gr, c, h1, h2⟩
    · subst h1 h3
      by_cases h4 : n1 ≤ 4
      · exact stk_small st n1 (by omega) h4 w h2
      · exact stk_big st n1 (by omega) (by omega) w h2
    · subst h1
      exact stk_in st si gr l c n1 (by omega) (by omega) (by omega) w (.inr ⟨si, gr, c, rfl, h2⟩)
  have HALL := Lib.hid (And.intro hst (And.intro hD (And.intro hn1e.2 (And.intro hnm.2 hmn))))
  have HQ := Lib.hid (And.intro hq (And.intro hqw (And.intro hql hqW)))
  have HU := Lib.hid (And.intro hu (And.intro huw (And.intro hul huW)))
  have HV := Lib.hid (And.intro hv (And.intro hvl hvW))
  have HV1 := Lib.hid (And.intro hv1 (And.intro hv2 ht))
  clear hst hD hn1e hnm hmn hq hqw hql hqW hu huw hul huW hv hvl hvW hv1 hv2 ht
  go_enter_defers Tryz.func73, Tryz.ntmps73
  go_wp2_with fail
  refine HSV.out.mono ?_
  rintro e w' ⟨rfl, rfl⟩
  go_wp2_with fail
  refine HNAT.out.mono ?_
  rintro e w1 ⟨gx, o, cx, c, l', D', rfl, q1, q2, q3, q4, q5, q6, q7, q8, q9, q10⟩
  have hA : AfterNat B gq cq gu cu gv ov st l n gx o c l' D' us vs qs w w1 := after_nat B gq cq gu cu gv ov st l m n n1 D us vs qs w w1 HALL.out.1 HQ.out.1 HQ.out.2.1 HU.out.1 HU.out.2.1 HV.out.1 HV.out.2.1 hn1 hvu hvq hsu hsq hsv HALL.out.2.1 hBs hBw gx o cx c l' D' q1 q4 q5 q7 q8 q9 q10
  have cv1 := hA.wv.at HV1.out.1
  rw [← HALL.out.2.2.2.1] at cv1
  have HA := Lib.hid hA
  have hoc : o + n1 ≤ c := q2
  have HX : Hid (n1 ≤ cx ∧ gx ≠ st) := ⟨q3, q9⟩
  have HREC := Lib.hid (recip_w v1 (by omega) (HV.out.2.2 _ (List.mem_of_getElem? HV1.out.1)) w1)
  obtain ⟨rc, hrc⟩ : ∃ rc, rc = recOf v1 := ⟨_, rfl⟩
  rw [← hrc] at HREC
  have HRC := Lib.hid hrc
  clear hA q1 q2 q3 q4 q5 q6 q7 q8 q9 q10 hrc HNAT HSV
  go_wp2_with fail
  refine HREC.out.mono ?_
  rintro e w2 ⟨rfl, nq, rfl⟩
  obtain ⟨W, hW⟩ : ∃ W, W = w1.drewN nq := ⟨_, rfl⟩
  rw [← hW]
  have HW : Hid (AfterNat B gq cq gu cu gv ov st l n gx o c l' D' us vs qs w W) := by
    unfold Hid
    rw [hW]
    obtain ⟨a1, a2, a3, a4, a5, a6, a7, a8, a9, a10, a11, a12, a13, a14⟩ := HA.out
    exact ⟨a1, a2, a3, a4, a5.hp rfl, a6.hp rfl, a7.hp rfl, a8.hp rfl, a9.hp rfl, a10.hp rfl, a11, a12, a13, below_dn a14 _⟩
  clear hW cv1 HREC HA
  go_wp2_with fail
  go_loopw [13, 14] (fun uv jv wr => ∃ (i u1 : Nat), i ≤ m + 1 ∧ jv = .int .i64 ((i : Int) - 1) ∧ uv = .int .u64 (u1 : Int) ∧ Hid (DBInv gu gq gx o n m (valW vs) us W i u1 wr))
    (fun _ jv _ => (intOf jv + 1).toNat)
  case atStart => exact ⟨m + 1, 0, Nat.le_refl _, by simp, rfl, LR.refl _ _ _ _ _ _, ⟨qs, HQ.out.2.2.1, HQ.out.2.2.2, HW.out.wq⟩, .inl ⟨rfl, rfl, HW.out.wu⟩⟩
  case round =>
    obtain ⟨i, u1, hi, rfl, rfl, hrel⟩ := hrel
    by_cases h0 : i = 0
    · subst h0
      rw [show (((0 : Nat) : Int) - 1) = -1 from rfl]
      have hrI := hrel.out
      have hvpos : 0 < valW vs := by
        have h1 := val_top2 vs (n - 2) v1 v2 (by have := HV.out.2.1; omega) (by rw [show n - 2 + 1 = n - 1 by omega]; exact HV1.out.1) HV1.out.2.1
        have h2 : 0 < W64 ^ (n - 2) := Nat.pow_pos W64_pos
        have h3 : 0 < (v1 * W64 + v2) * W64 ^ (n - 2) := Nat.mul_pos (by have := Nat.mul_pos (show 0 < v1 by omega) W64_pos; omega) h2
        omega
      have HSR := Lib.hid (fun u => stk_restore st l l' D' u wr (hrI.1.stk HW.out.sk HW.out.ru HW.out.rq HW.out.rx) HW.out.ll)
      have HEND := Lib.hid (fun w' hB => db_end (w' := w') HW.out hm1 hvpos hrI hB hBu hBq (Nat.le_trans hBw HW.out.bw.size))
      clear hrel hrI
      go_wp2
      refine leaves_cons (f := 67) (args := #[.pointer (some ⟨st, 0, none⟩), .int .i64 (l : Int)]) (by simp) (by simp [go_sem]) ?_
      refine (HSR.out _).mono ?_
      rintro e u' w' ⟨rfl, rfl, hB⟩
      have HE := HEND.out w' hB
      simp [Leaves, settle, results, Tryz.results73]
      exact HE
    · obtain ⟨j, hj⟩ : ∃ j, i = j + 1 := ⟨i - 1, by omega⟩
      have hji : (i : Int) - 1 = (j : Int) := by omega
      rw [hji]
      have hd : decide ((0 : Int) ≤ (j : Int)) = true := by simp
      obtain ⟨jn, hjn⟩ : ∃ jn : Nat, (j : Int) + (n : Int) = (jn : Int) ∧ jn = j + n := ⟨j + n, by omega, rfl⟩
      obtain ⟨ja, hja⟩ : ∃ ja : Nat, (jn : Int) - 1 = (ja : Int) ∧ ja = j + n - 1 := ⟨j + n - 1, by omega, rfl⟩
      obtain ⟨jb, hjb⟩ : ∃ jb : Nat, (jn : Int) - 2 = (jb : Int) ∧ jb = j + n - 2 := ⟨j + n - 2, by omega, rfl⟩
      obtain ⟨nb, hnb⟩ : ∃ nb : Nat, (n : Int) - 2 = (nb : Int) ∧ nb = n - 2 := ⟨n - 2, by omega, rfl⟩
      have hjn1 := hjn.1
      have hja1 := hja.1
      have hjb1 := hjb.1
      have hnb1 := hnb.1
      have HJ := Lib.hid (And.intro hj (And.intro hjn.2 (And.intro hja.2 (And.intro hjb.2 hnb.2))))
      clear hj hjn hja hjb hnb hji h0
      rcases Nat.lt_or_ge m i with hfirst | hgen
      · as_aux_lemma =>
          have him : j = m := by have := HJ.out.1; omega
          have hrI := hrel.out
          obtain ⟨hL, ⟨qs', hq1, hq2, hq3⟩, h4⟩ := hrI
          rcases h4 with ⟨_, h5, h6⟩ | ⟨h5, _⟩
          case inr => omega
          subst h5
          have hul := HU.out.2.2.1
          have hvl := HV.out.2.1
          obtain ⟨tb, htb⟩ : ∃ tb, us[m + n - 2]? = some tb := ⟨us[m + n - 2]'(by omega), List.getElem?_eq_getElem _⟩
          have ca := h6.at HV1.out.2.2
          have cb := h6.at htb
          rw [Nat.zero_add, show m + n - 1 = ja by have := HJ.out; omega] at ca
          rw [Nat.zero_add, show m + n - 2 = jb by have := HJ.out; omega] at cb
          have hWv := hL.wa hvu hvq (fun e => by have := HW.out.xv e.symm; omega) HW.out.wv
          have cvb := hWv.at HV1.out.2.1
          rw [show n - 2 = nb by have := HJ.out; omega] at cvb
          have hjamn : (ja : Int) < (mn : Int) := by have := HJ.out; have := HALL.out.2.2.2.2; omega
          have hjbmn : (jb : Int) < (mn : Int) := by have := HJ.out; have := HALL.out.2.2.2.2; omega
          have hnbn : (nb : Int) < (n : Int) := by have := HJ.out; omega
          have htW : t < W64 := HU.out.2.2.2 _ (List.mem_of_getElem? HV1.out.2.2)
          have hv1W : v1 < W64 := HV.out.2.2 _ (List.mem_of_getElem? HV1.out.1)
          have hv2W : v2 < W64 := HV.out.2.2 _ (List.mem_of_getElem? HV1.out.2.1)
          have HDW := Lib.hid (fun W => div_ww 0 t v1 (by omega) htW hv1W W)
          rw [← HRC.out, Nat.zero_mul, Nat.zero_add, Nat.div_eq_of_lt htv, Nat.mod_eq_of_lt htv, show ((0 : Nat) : Int) = 0 from rfl] at HDW
          have HMW := Lib.hid (fun W => mul_ww 0 v2 W64_pos hv2W W)
          rw [Nat.zero_mul, Nat.zero_div, Nat.zero_mod, show ((0 : Nat) : Int) = 0 from rfl] at HMW
          have HGT := Lib.hid (fun W => greater_than 0 0 t tb W)
          rw [show gt2 0 0 t tb = false by simp [gt2], show ((0 : Nat) : Int) = 0 from rfl] at HGT
          have hnn1 : n1 = n + 1 := HALL.out.2.2.1
          have hslx : ∀ W, (Instr.slice 58 (.slice (some ⟨gx, o, none⟩) n1 cx) (some (.int .i64 0)) (some (.int .i64 (n : Int))) none).run Tryz.prog W = .ok (.slice (some ⟨gx, o, none⟩) n cx) W := fun W => nat_mid W gx o n1 cx 0 n (by omega) (by have := HX.out; omega)
          have hrowx := hL.row _ _ HW.out.rx
          have hokv : Ok gx o gv ov n := fun k hk ⟨e, e1, e2⟩ => by have := HW.out.xv e.symm; omega
          have HMV := Lib.hid (mul_vw gx o c gv ov n cx cv 0 0 vs wr hrowx (by omega) hvl (by omega) hWv hokv HV.out.2.2 W64_pos W64_pos)
          rw [show ((0 : Nat) : Int) = 0 from rfl] at HMV
          have HRX := Lib.hid hrowx
          obtain ⟨jq, hjq⟩ : ∃ jq : Nat, (j : Int) + (n1 : Int) = (jq : Int) ∧ jq = j + n1 := ⟨j + n1, by omega, rfl⟩
          have hjq1 := hjq.1
          have hqd : decide ((mn : Int) < (jq : Int)) = true := by have := HALL.out.2.2.2.2; simp; omega
          have hqd2 : decide (mn < jq) = true := by have := HALL.out.2.2.2.2; simp; omega
          have hn1s : (n1 : Int) - 1 = (n : Int) := by omega
          have hnn1i : (n : Int) < (n1 : Int) := by omega
          have HJQ := Lib.hid hjq.2
          have hz1 : ((0 : Int) != (v1 : Int)) = true := by rw [bne_iff_ne]; omega
          have HL := Lib.hid hL
          have H6 := Lib.hid h6
          have HQ3 := Lib.hid (And.intro hq1 (And.intro hq2 hq3))
          have HWV := Lib.hid hWv
          have hjm : j = m := him
          subst hjm
          clear hrel hL hq1 hq2 hq3 h6 hWv htb hul hvl hrowx hokv hjq hnn1
          go_wp2_with fail
          refine (HDW.out _).mono ?_
          rintro e w' ⟨rfl, rfl⟩
          go_wp2_with fail
          refine (HMW.out _).mono ?_
          rintro e w' ⟨rfl, rfl⟩
          go_wp2_with fail
          refine wp_loop_rounds 1 ?_
          rw [rounds_succ]
          go_wp2_with fail
          refine (HGT.out _).mono ?_
          rintro e w' ⟨rfl, rfl⟩
          go_wp2_with fail
          refine HMV.out.mono ?_
          rintro e w3 ⟨cc, xs, rfl, hcW, hxl, hxW, hval, hwa, hwr⟩
          have hcz : cc = 0 ∧ valW xs = 0 := by
            have hp : 0 < W64 ^ n := Nat.pow_pos W64_pos
            rw [Nat.mul_zero, Nat.zero_add] at hval
            rcases Nat.eq_zero_or_pos cc with h | h
            · subst h; omega
            · have := Nat.mul_pos hp h; omega
          obtain ⟨rfl, hxz⟩ := hcz
          have hrow3 := hwr.rowB HRX.out
          obtain ⟨u, hu⟩ := hrow3.some (i := o + n) (by have := HALL.out.2.2.1; omega)
          have hfz := hrow3.free (o + n)
          have hgl := hrow3.lt
          have HR3 := Lib.hid hrow3
          have HX3 := Lib.hid (And.intro hxl (And.intro hxW (And.intro hxz (And.intro hwa hwr))))
          rw [show ((0 : Nat) : Int) = 0 from rfl]
          clear hrow3 hcW hxl hxW hval hwa hwr hxz
          go_upto_region 28 with fail
          obtain ⟨xl, xW, xz, xwa, xwr⟩ := HX3.out
          have hxu := HW.out.xu
          have hxq := HW.out.xq
          have hset : Wr gx (o + n) 1 w3 (w3.setCell ⟨gx, o + n, none⟩ (.int .u64 0)) := (Wr.refl gx (o + n) 1 w3).set (Nat.le_refl _) (by omega) _
          have hL4 : LR gu gq gx o (n + 1) W (w3.setCell ⟨gx, o + n, none⟩ (.int .u64 0)) := (HL.out.trans (LR.wrX xwr (Nat.le_refl _) (by omega))).trans (LR.wrX hset (by omega) (by omega))
          have hu4 : WA (w3.setCell ⟨gx, o + n, none⟩ (.int .u64 0)) gu 0 us := (H6.out.keep xwr (.inl (Ne.symm hxu))).keep hset (.inl (Ne.symm hxu))
          have hq4 : WA (w3.setCell ⟨gx, o + n, none⟩ (.int .u64 0)) gq 0 qs' := (HQ3.out.2.2.keep xwr (.inl (Ne.symm hxq))).keep hset (.inl (Ne.symm hxq))
          have hx4 : WA (w3.setCell ⟨gx, o + n, none⟩ (.int .u64 0)) gx o xs := xwa.keep hset (.inr (.inl (by omega)))
          have hul := HU.out.2.2.1
          have huW := HU.out.2.2.2
          have hmnj : mn = j + n := HALL.out.2.2.2.2
          obtain ⟨W4, hW4⟩ : ∃ W4, W4 = w3.setCell ⟨gx, o + n, none⟩ (.int .u64 0) := ⟨_, rfl⟩
          rw [← hW4] at hL4 hu4 hq4 hx4 ⊢
          have hsp : WA W4 gu j (us.drop j) := by
            have h1 : WA W4 gu 0 (us.take j ++ us.drop j) := by rw [List.take_append_drop]; exact hu4
            have h2 := h1.right
            rw [show 0 + (us.take j).length = j by simp; omega] at h2
            exact h2
          have HSUB := Lib.hid (sub_vv_r gu j cu gu j gx o n (cu - j) (cu - j) cx (us.drop j) xs W4.drew ((hL4.row _ _ HW.out.ru).hp rfl) (by omega) (by simp; omega) xl (by omega) (hsp.hp rfl) (hx4.hp rfl) (Ok.same _ _ _) (Ok.apart hxu) (fun x hx => huW x (List.mem_of_mem_drop hx)) xW)
          have hjn2 : jn = j + n := HJ.out.2.1
          have hsu1 := fun W' => nat_mid W' gu 0 mn cu j jn (by omega) (by omega)
          rw [Nat.zero_add, show jn - j = n by omega] at hsu1
          have hwjn : IntKind.i64.wrap (jn : Int) = (jn : Int) := wrap_i64_mid _ (by omega) (by omega)
          have hsx1 := fun W' => nat_uptoo W' gx o n1 cx n (by omega) (by have := HX.out; have := HALL.out.2.2.1; omega)
          have HL4 := Lib.hid hL4
          have HU4 := Lib.hid hu4
          have HQ4 := Lib.hid (And.intro HQ3.out.1 (And.intro HQ3.out.2.1 hq4))
          have HXZ := Lib.hid xz
          clear xl xW xz xwa xwr hset hL4 hu4 hq4 hx4 hul huW hW4 hsp hu hfz hmnj hjn2
          go_wp2_with fail
          go_still_tail 15, (by kernel_rfl)
          go_wp2_with fail
          refine HSUB.out.mono ?_
          rintro e w5 ⟨c5, rs, rfl, hc5, hrl, hrW, hv5, hwa5, hwr5⟩
          have hul := HU.out.2.2.1
          have huW := HU.out.2.2.2
          have hdl : (us.drop j).length = n := by simp; omega
          have hdW : ∀ x ∈ us.drop j, x < W64 := fun x hx => huW x (List.mem_of_mem_drop hx)
          have hr5 := valW_lt rs hrW
          have hd5 := valW_lt (us.drop j) hdW
          rw [HXZ.out, Nat.add_zero] at hv5
          rw [hrl] at hr5
          have hc50 : c5 = 0 := by
            rcases Nat.eq_zero_or_pos c5 with h | h
            · exact h
            · have : W64 ^ n * 1 ≤ W64 ^ n * c5 := Nat.mul_le_mul_left _ h
              omega
          subst hc50
          rw [Nat.mul_zero, Nat.add_zero] at hv5
          have hrs := valW_inj rs (us.drop j) (by rw [hrl, hdl]) hrW hdW hv5
          have hu5 : WA w5 gu 0 us := by
            have h1 : WA W4.drew gu 0 (us.take j ++ us.drop j) := by rw [List.take_append_drop]; exact HU4.out.hp rfl
            have h2 := h1.left.keep hwr5 (.inr (.inl (by simp; omega)))
            have h3 : WA w5 gu 0 (us.take j ++ rs) := h2.app (by rw [show 0 + (us.take j).length = j by simp; omega]; exact hwa5)
            rw [hrs, List.take_append_drop] at h3
            exact h3
          have ca5 := hu5.at HV1.out.2.2
          rw [Nat.zero_add, show j + n - 1 = ja by have := HJ.out; omega] at ca5
          have hL5 : LR gu gq gx o (n + 1) W w5 := HL4.out.dw.trans (LR.wrU hwr5)
          have hq5 : WA w5 gq 0 qs' := (HQ4.out.2.2.hp (w' := W4.drew) rfl).keep hwr5 (.inl hqu)
          have HF := Lib.hid (db_first hL5 ⟨qs', HQ4.out.1, HQ4.out.2.1, hq5⟩ hul huW HV.out.2.1 (by omega) HV1.out.2.2 HV1.out.1 htv hu5)
          have hjj : ((j : Int) == (j : Int)) = true := by simp
          rw [show ((0 : Nat) : Int) = 0 from rfl]
          clear hc5 hrl hrW hv5 hwa5 hwr5 hul huW hdl hdW hr5 hd5 hrs hu5 hL5 hq5
          go_wp2
          go_roundw
          case rel =>
            exact ⟨j, t, by omega, rfl, rfl, HF.out⟩
          case measure => have := HJ.out.1; simp [intOf]; try omega
      · have hrI := hrel.out
        obtain ⟨hL, ⟨qs', hq1, hq2, hq3⟩, h4⟩ := hrI
        rcases h4 with ⟨h5, _⟩ | ⟨_, lo, mid, zs, Q, a1, a2, a3, a4, a5, a6, a7, a8, a9, a10⟩
        · omega
        have hjm : j < m := by have := HJ.out.1; omega
        have hvl := HV.out.2.1
        obtain ⟨lo', x0, hlo⟩ : ∃ lo' x0, lo = lo' ++ [x0] := ⟨lo.dropLast, lo.getLast (fun e => by rw [e] at a1; simp at a1; have := HJ.out.1; omega), (List.dropLast_concat_getLast _).symm⟩
        have hll : lo'.length = j := by rw [hlo] at a1; simp at a1; have := HJ.out.1; omega
        obtain ⟨win, hwin⟩ : ∃ win, win = x0 :: mid := ⟨_, rfl⟩
        have hwl : win.length = n + 1 := by rw [hwin]; simp [a2]
        have hus : lo ++ mid ++ zs = lo' ++ win ++ zs := by rw [hlo, hwin]; simp
        rw [hus] at a10
        have hwW : ∀ x ∈ win, x < W64 := by
          intro x hx
          rw [hwin] at hx
          rcases List.mem_cons.1 hx with h | h
          · rw [h]; exact a4 x0 (by rw [hlo]; simp)
          · exact a5 x h
        have hu1w : win[n]? = some u1 := by
          rw [hwin, show n = (n - 1) + 1 by omega, List.getElem?_cons_succ]; exact a8
        obtain ⟨ua, hua⟩ : ∃ ua, win[n - 1]? = some ua := ⟨win[n - 1]'(by omega), List.getElem?_eq_getElem _⟩
        obtain ⟨ub, hub⟩ : ∃ ub, win[n - 2]? = some ub := ⟨win[n - 2]'(by omega), List.getElem?_eq_getElem _⟩
        have hwU : WA wr gu j win := by
          have h1 := (a10.left).right
          rw [Nat.zero_add, hll] at h1
          exact h1
        have ca := hwU.at hua
        have cb := hwU.at hub
        rw [show j + (n - 1) = ja by have := HJ.out; omega] at ca
        rw [show j + (n - 2) = jb by have := HJ.out; omega] at cb
        have hWv := hL.wa hvu hvq (fun e => by have := HW.out.xv e.symm; omega) HW.out.wv
        have cvb := hWv.at HV1.out.2.1
        rw [show n - 2 = nb by have := HJ.out; omega] at cvb
        have hjamn : (ja : Int) < (mn : Int) := by have := HJ.out; have := HALL.out.2.2.2.2; omega
        have hjbmn : (jb : Int) < (mn : Int) := by have := HJ.out; have := HALL.out.2.2.2.2; omega
        have hnbn : (nb : Int) < (n : Int) := by have := HJ.out; omega
        have hv1W : v1 < W64 := HV.out.2.2 _ (List.mem_of_getElem? HV1.out.1)
        have hv2W : v2 < W64 := HV.out.2.2 _ (List.mem_of_getElem? HV1.out.2.1)
        have hu1W : u1 < W64 := hwW _ (List.mem_of_getElem? hu1w)
        have huaW : ua < W64 := hwW _ (List.mem_of_getElem? hua)
        have hubW : ub < W64 := hwW _ (List.mem_of_getElem? hub)
        have hUV : valW win < W64 * valW vs := by
          rw [hwin]
          simp only [valW]
          have h1 : W64 * (valW mid + 1) ≤ W64 * valW vs := Nat.mul_le_mul_left _ a7
          rw [Nat.mul_add] at h1
          have h2 : x0 < W64 := hwW x0 (by rw [hwin]; simp)
          omega
        have hu1v : u1 ≤ v1 := by
          rcases Nat.lt_or_ge v1 u1 with h | h
          · exfalso
            have := top_less vs mid n v1 u1 (by omega) hvl a2 HV.out.2.2 HV1.out.1 a8 h
            omega
          · exact h
        have HWIN := Lib.hid (And.intro hwl (And.intro hwW (And.intro hu1w (And.intro hua (And.intro hub hUV)))))
        have HL := Lib.hid hL
        have HST := Lib.hid (And.intro hll (And.intro a3 (And.intro a6 (And.intro a9 (And.intro a10 (And.intro hlo hwin))))))
        have HQ3 := Lib.hid (And.intro hq1 (And.intro hq2 hq3))
        have HWV := Lib.hid hWv
        have HA4 := Lib.hid (And.intro a4 (And.intro a7 a2))
        clear hrel hL hq1 hq2 hq3 a1 a2 a3 a4 a5 a6 a7 a8 a9 a10 hWv hvl hlo hll hwin hwl hus hwW hu1w hua hub hwU hUV
        go_upto_if 51 with fail
        go_cut [15, 16, 17, 18, 19, 20] from 51 to 105 (fun v15 _ _ _ _ _ wx => ∃ g : Nat, v15 = .int .u64 (g : Int) ∧ wr = wx ∧ Hid (g < W64 ∧ valW win / valW vs ≤ g ∧ (g - 1) * valW vs ≤ valW win))
        case first =>
          as_aux_lemma =>
            rcases Nat.lt_or_ge u1 v1 with hlt | hge
            · have hb51 : ((u1 : Int) != (v1 : Int)) = true := by rw [bne_iff_ne]; omega
              have HDW := Lib.hid (fun W => div_ww u1 ua v1 hlt huaW hv1W W)
              rw [← HRC.out] at HDW
              have hW0 := W64_pos
              have h2v : W64 ≤ 2 * v1 := by unfold W64; omega
              have hqW0 : (u1 * W64 + ua) / v1 < W64 := by
                rw [Nat.div_lt_iff_lt_mul (by omega)]
                have h1 : (u1 + 1) * W64 ≤ v1 * W64 := Nat.mul_le_mul_right _ hlt
                rw [Nat.add_mul] at h1
                rw [Nat.mul_comm W64 v1]
                omega
              have hyu : u1 * W64 + ua < v1 * W64 + v2 := by
                have h1 : (u1 + 1) * W64 ≤ v1 * W64 := Nat.mul_le_mul_right _ hlt
                rw [Nat.add_mul] at h1
                omega
              have hHS := half_start W64 v1 v2 (u1 * W64 + ua) ub hyu hubW hv2W h2v (by unfold W64; omega) hv1W
              obtain ⟨q0, hq0⟩ : ∃ q0, q0 = (u1 * W64 + ua) / v1 := ⟨_, rfl⟩
              obtain ⟨r0, hr0⟩ : ∃ r0, r0 = (u1 * W64 + ua) % v1 := ⟨_, rfl⟩
              unfold QRPost at HDW
              rw [← hq0, ← hr0] at HDW hHS
              rw [← hq0] at hqW0
              have HMW := Lib.hid (fun W => mul_ww q0 v2 hqW0 hv2W W)
              obtain ⟨y1, hy1⟩ : ∃ y1, y1 = q0 * v2 / W64 := ⟨_, rfl⟩
              obtain ⟨y2, hy2⟩ : ∃ y2, y2 = q0 * v2 % W64 := ⟨_, rfl⟩
              unfold QRPost at HMW
              rw [← hy1, ← hy2] at HMW
              have HST0 := Lib.hid (And.intro hHS (And.intro hqW0 (And.intro hy1 hy2)))
              have HYU := Lib.hid hyu
              have HKN : Hid (∀ g, g = ((u1 * W64 + ua) * W64 + ub) / (v1 * W64 + v2) → Hid (g < W64 ∧ valW win / valW vs ≤ g ∧ (g - 1) * valW vs ≤ valW win)) := by
                intro g hg
                have h1 := HWIN.out
                have h2 := HV.out
                obtain ⟨k1, k2, k3⟩ := kn_guess (n - 2) v1 v2 u1 ua ub g vs win (by omega) (by omega) h2.2.2 h1.2.1 (by rw [show n - 2 + 1 = n - 1 by omega]; exact HV1.out.1) HV1.out.2.1 (by rw [show n - 2 + 2 = n by omega]; exact h1.2.2.1) (by rw [show n - 2 + 1 = n - 1 by omega]; exact h1.2.2.2.1) h1.2.2.2.2.1 hv1n hlt hg
                exact ⟨k3, k1, k2⟩
              clear hHS hqW0 hy1 hy2 hq0 hr0 hyu h2v hW0
              go_wp2_with fail
              refine (HDW.out _).mono ?_
              rintro e w' ⟨rfl, rfl⟩
              go_wp2_with fail
              refine (HMW.out _).mono ?_
              rintro e w' ⟨rfl, rfl⟩
              go_wp2_with fail
              go_loop [15, 16, 18, 19] (fun qv rv xv yv => ∃ (q r x y : Nat), qv = .int .u64 (q : Int) ∧ rv = .int .u64 (r : Int) ∧ xv = .int .u64 (x : Int) ∧ yv = .int .u64 (y : Int) ∧ Hid (HalfRel W64 v1 v2 (u1 * W64 + ua) ub q r ∧ q < W64 ∧ x = q * v2 / W64 ∧ y = q * v2 % W64))
                (fun qv _ _ _ => (intOf qv).toNat)
              case atStart => exact ⟨q0, r0, y1, y2, rfl, rfl, rfl, rfl, HST0.out⟩
              case round =>
                obtain ⟨q, r, x, y, rfl, rfl, rfl, rfl, hrel⟩ := hrel
                have HGT := Lib.hid (fun W => greater_than x y r ub W)
                obtain ⟨⟨e1, e2, e3, e4⟩, e5, e6, e7⟩ := hrel.out
                have hW0 := W64_pos
                have hyW : y < W64 := by rw [e7]; exact Nat.mod_lt _ hW0
                have hxy : x * W64 + y = q * v2 := by
                  have h1 := Nat.div_add_mod (q * v2) W64
                  rw [← e6, ← e7, Nat.mul_comm] at h1
                  exact h1
                rw [gt2_iff W64 x y r ub hyW hubW, hxy] at HGT
                have hvp : 0 < v1 * W64 + v2 := by have := Nat.mul_pos (show 0 < v1 by omega) hW0; omega
                by_cases hc : r * W64 + ub < q * v2
                · have h1 := half_ge W64 v1 v2 (u1 * W64 + ua) ub q r HYU.out hubW e1 (.inr (by rw [Nat.mul_comm]; exact hc))
                  obtain ⟨k, hk⟩ : ∃ k, q = k + 1 := ⟨q - 1, (Nat.succ_pred_eq_of_pos (Nat.zero_lt_of_lt h1)).symm⟩
                  have hk1 : (q : Int) - 1 = (k : Int) := by omega
                  have hwk : IntKind.u64.wrap (k : Int) = (k : Int) := wrap64_small _ (by omega) (by unfold W64 at e5; omega)
                  obtain ⟨s, hs⟩ : ∃ s : Nat, (r : Int) + (v1 : Int) = (s : Int) ∧ s = r + v1 := ⟨r + v1, by omega, rfl⟩
                  have hs1 := hs.1
                  have hd1 : decide (r * W64 + ub < q * v2) = true := by simp; omega
                  rw [hd1] at HGT
                  have hek : u1 * W64 + ua = k * v1 + s := by rw [e1, hk, hs.2, Nat.add_mul]; omega
                  rcases Nat.lt_or_ge s W64 with hsW | hsW
                  · have hws : IntKind.u64.wrap (s : Int) = (s : Int) := wrap64_small _ (by omega) (by unfold W64 at hsW; omega)
                    have b1 : decide ((s : Int) < (v1 : Int)) = false := by simp; omega
                    have b2 : decide (s < v1) = false := by simp; omega
                    have hp := less_prod W64 k v2 x y hW0 hv2W (by rw [← hk]; exact e6) (by rw [← hk]; exact e7)
                    have HR2 : Hid (HalfRel W64 v1 v2 (u1 * W64 + ua) ub k s ∧ k < W64 ∧ k < q) := ⟨⟨hek, by omega, hsW, by omega⟩, by omega, by omega⟩
                    rcases Nat.lt_or_ge y v2 with hyv | hyv
                    · obtain ⟨p1, p2, p3, p4⟩ := hp.1 hyv
                      obtain ⟨xa, hxa⟩ : ∃ xa : Nat, (x : Int) - 1 = (xa : Int) ∧ xa = x - 1 := ⟨x - 1, by omega, rfl⟩
                      have hxa1 := hxa.1
                      have hxW : x ≤ q * v2 := by have := Nat.le_mul_of_pos_right x hW0; omega
                      have hxW2 : x < W64 := by
                        rw [e6, Nat.div_lt_iff_lt_mul hW0]
                        exact Nat.lt_of_lt_of_le (Nat.mul_lt_mul_of_lt_of_le e5 (Nat.le_of_lt hv2W) (by omega)) (Nat.le_refl _)
                      have hwx : IntKind.u64.wrap (xa : Int) = (xa : Int) := wrap64_small _ (by omega) (by unfold W64 at hxW2; omega)
                      obtain ⟨ya, hya⟩ : ∃ ya : Nat, IntKind.u64.wrap ((y : Int) - (v2 : Int)) = (ya : Int) ∧ ya = y + W64 - v2 := ⟨y + W64 - v2, by unfold W64 at *; rw [IntKind.wrap_u64]; omega, rfl⟩
                      have hya1 := hya.1
                      have b3 : decide ((y : Int) < (v2 : Int)) = true := by simp; omega
                      have b4 : decide (y < v2) = true := by simp; omega
                      have HXY : Hid (xa = k * v2 / W64 ∧ ya = k * v2 % W64) := ⟨by rw [hxa.2]; exact p2, by rw [hya.2]; exact p3⟩
                      clear hrel e1 e2 e3 e4 e5 e6 e7 hxy hc h1 hk hs hd1 hek hp p1 p2 p3 p4 hxa hya hxW hxW2 hvp hW0
                      go_wp2_with fail
                      refine (HGT.out _).mono ?_
                      rintro e w' ⟨rfl, rfl⟩
                      go_wp2
                      go_round
                      case rel => exact ⟨k, s, xa, ya, rfl, rfl, rfl, rfl, HR2.out.1, HR2.out.2.1, HXY.out⟩
                      case measure => have h7 := HR2.out.2.2; simp [intOf]; omega
                    · obtain ⟨p1, p2⟩ := hp.2 hyv
                      obtain ⟨ya, hya⟩ : ∃ ya : Nat, (y : Int) - (v2 : Int) = (ya : Int) ∧ ya = y - v2 := ⟨y - v2, by omega, rfl⟩
                      have hya1 := hya.1
                      have hwy : IntKind.u64.wrap (ya : Int) = (ya : Int) := wrap64_small _ (by omega) (by unfold W64 at hyW; omega)
                      have b3 : decide ((y : Int) < (v2 : Int)) = false := by simp; omega
                      have b4 : decide (y < v2) = false := by simp; omega
                      have HXY : Hid (x = k * v2 / W64 ∧ ya = k * v2 % W64) := ⟨p1, by rw [hya.2]; exact p2⟩
                      clear hrel e1 e2 e3 e4 e5 e6 e7 hxy hc h1 hk hs hd1 hek hp p1 p2 hya hvp hW0
                      go_wp2_with fail
                      refine (HGT.out _).mono ?_
                      rintro e w' ⟨rfl, rfl⟩
                      go_wp2
                      go_round
                      case rel => exact ⟨k, s, x, ya, rfl, rfl, rfl, rfl, HR2.out.1, HR2.out.2.1, HXY.out⟩
                      case measure => have h7 := HR2.out.2.2; simp [intOf]; omega
                  · obtain ⟨sb, hsb⟩ : ∃ sb : Nat, IntKind.u64.wrap (s : Int) = (sb : Int) ∧ sb = s - W64 := ⟨s - W64, by unfold W64 at *; rw [IntKind.wrap_u64]; omega, rfl⟩
                    have hsb1 := hsb.1
                    have b1 : decide ((sb : Int) < (v1 : Int)) = true := by simp; omega
                    have b2 : decide (sb < v1) = true := by simp; omega
                    have h2 := half_brk W64 v1 v2 (u1 * W64 + ua) ub k s hvp hv2W hek (by omega) hsW
                    have HG2 : Hid (k = ((u1 * W64 + ua) * W64 + ub) / (v1 * W64 + v2)) := by unfold Hid; omega
                    clear hrel e1 e2 e3 e4 e5 e6 e7 hxy hc h1 h2 hk hs hd1 hek hsb hvp hW0
                    go_wp2_with fail
                    refine (HGT.out _).mono ?_
                    rintro e w' ⟨rfl, rfl⟩
                    go_wp2
                    go_meet
                    exact ⟨k, rfl, rfl, HKN.out k HG2.out⟩
                · have hd1 : decide (r * W64 + ub < q * v2) = false := by simp; omega
                  rw [hd1] at HGT
                  have h2 := half_le W64 v1 v2 (u1 * W64 + ua) ub q r hvp e1 (by rw [Nat.mul_comm W64 r]; omega)
                  have HG2 : Hid (q = ((u1 * W64 + ua) * W64 + ub) / (v1 * W64 + v2)) := by unfold Hid; omega
                  clear hrel e1 e2 e3 e4 e5 e6 e7 hxy hc h2 hd1 hvp hW0
                  go_wp2_with fail
                  refine (HGT.out _).mono ?_
                  rintro e w' ⟨rfl, rfl⟩
                  go_wp2
                  go_meet
                  exact ⟨q, rfl, rfl, HKN.out q HG2.out⟩
            · have hb51 : ((u1 : Int) != (v1 : Int)) = false := by simp; omega
              have HKT : Hid ((18446744073709551615 : Nat) < W64 ∧ valW win / valW vs ≤ 18446744073709551615 ∧ (18446744073709551615 - 1) * valW vs ≤ valW win) := by
                have h1 := HWIN.out
                have h2 := HV.out
                exact ⟨by unfold W64; omega, kn_guess_top (n - 2) v1 u1 vs win (by omega) (by omega) h2.2.2 (by rw [show n - 2 + 1 = n - 1 by omega]; exact HV1.out.1) (by rw [show n - 2 + 2 = n by omega]; exact h1.2.2.1) hv1n (by omega) h1.2.2.2.2.2⟩
              go_wp2_with fail
              go_meet
              exact ⟨18446744073709551615, rfl, rfl, HKT.out⟩
        case rest =>
          obtain ⟨g, hv15, hwx, hg⟩ := hcut
          subst hv15 hwx
          have hrx : RowB wr gx c := HL.out.row _ _ HW.out.rx
          have hgW : g < W64 := hg.1
          have HM := Lib.hid (mul_vw gx o c gv ov n cx cv g 0 vs wr hrx (by have := HALL.out.2.2.1; omega) HV.out.2.1 (by omega) HWV.out (fun i hi hc => by have := HW.out.xv hc.1.symm; omega) HV.out.2.2 hgW W64_pos)
          rw [show (((0 : Nat)) : Int) = 0 from rfl] at HM
          have hncx : n ≤ cx := by have := HX.out.1; have := HALL.out.2.2.1; omega
          have HRX := Lib.hid hrx
          have HG := Lib.hid hg
          clear hrx hg hgW
          go_wp2_with fail
          refine HM.out.mono ?_
          rintro e w2 ⟨c1, ps, rfl, m1, m2, m3, m4, m5, m6⟩
          have hrx2 : RowB w2 gx c := m6.rowB HRX.out
          have hcn : o + n < c := by have := HALL.out.2.2.1; omega
          obtain ⟨uu, hcu⟩ := hrx2.some hcn
          have hfz := hrx2.free (o + n)
          have hnn1 : (n : Int) < (n1 : Int) := by omega
          have HP := Lib.hid (show WA (w2.setCell ⟨gx, o + n, none⟩ (.int .u64 (c1 : Int))) gx o (ps ++ [c1]) from m5.put m2 hrx2 hcn)
          have HPV : Hid ((ps ++ [c1]).length = n + 1 ∧ (∀ x ∈ ps ++ [c1], x < W64) ∧ valW (ps ++ [c1]) = valW vs * g) := by
            refine ⟨by simp [m2], fun x hx => ?_, ?_⟩
            · rcases List.mem_append.1 hx with h | h
              · exact m3 x h
              · simp at h; rw [h]; exact m1
            · rw [valW_append, m2]; simp only [valW, Nat.mul_zero, Nat.add_zero]; omega
          have HWR := Lib.hid (show Wr gx o (n + 1) wr (w2.setCell ⟨gx, o + n, none⟩ (.int .u64 (c1 : Int))) from (m6.mono (Nat.le_refl _) (by omega)).set (by omega) (by omega) _)
          obtain ⟨w3, hw3⟩ : ∃ w3, w3 = w2.setCell ⟨gx, o + n, none⟩ (.int .u64 (c1 : Int)) := ⟨_, rfl⟩
          rw [← hw3] at HP HWR
          obtain ⟨jq, hjq⟩ : ∃ jq : Nat, (j : Int) + (n1 : Int) = (jq : Int) ∧ jq = j + n1 := ⟨j + n1, by omega, rfl⟩
          have hjq1 := hjq.1
          have b1 : decide ((mn : Int) < (jq : Int)) = false := by have := HALL.out.2.2; simp; omega
          have b2 : decide (mn < jq) = false := by have := HALL.out.2.2; simp; omega
          have hjqc : jq ≤ cu := by have := HALL.out.2.2; omega
          have hjjq : j ≤ jq := by omega
          have hn1cx : n1 ≤ cx := HX.out.1
          have HJQ := Lib.hid hjq.2
          have hqx := HW.out.xq
          have hxu := HW.out.xu
          have HGU := Lib.hid (show WA w3 gu 0 (lo' ++ win ++ zs) from HST.out.2.2.2.2.1.keep HWR.out (.inl (Ne.symm hxu)))
          have HGQ := Lib.hid (show WA w3 gq 0 qs' from HQ3.out.2.2.keep HWR.out (.inl (Ne.symm hqx)))
          have HL3 := Lib.hid (show LR gu gq gx o (n + 1) W w3 from HL.out.trans (LR.wrX HWR.out (Nat.le_refl _) (Nat.le_refl _)))
          have hw1 : WA w3 gu j win := by
            have h1 := (HGU.out.left).right
            rw [Nat.zero_add, HST.out.1] at h1
            exact h1
          have hn1n : n1 = n + 1 := HALL.out.2.2.1
          have HSUB := Lib.hid (sub_vv_r gu j cu gu j gx o n1 (cu - j) (cu - j) cx win (ps ++ [c1]) w3.drew ((HL3.out.row _ _ HW.out.ru).hp rfl) (by omega) (by rw [HWIN.out.1]; omega) (by rw [HPV.out.1]; omega) (by omega) (hw1.hp rfl) (HP.out.hp rfl) (Ok.same _ _ _) (Ok.apart hxu) HWIN.out.2.1 HPV.out.2.1)
          have hsu1 := fun W' => nat_mid W' gu 0 mn cu j jq (by omega) (by omega)
          rw [Nat.zero_add, show jq - j = n1 by omega] at hsu1
          have hwjq : IntKind.i64.wrap (jq : Int) = (jq : Int) := wrap_i64_mid _ (by omega) (by omega)
          have hsx1 := fun W' => nat_uptoo W' gx o n1 cx n1 (by omega) (by omega)
          have HN1 := Lib.hid hn1n
          clear hw1 hn1n
          clear m1 m2 m3 m4 m5 m6 hrx2 hcn HM hjq
          go_wp2_with fail
          rw [← hw3]
          clear hw3
          go_still_tail 15, (by kernel_rfl)
          go_wp2_with fail
          refine HSUB.out.mono ?_
          rintro e w5 ⟨c5, rs, rfl, hc5, hrl, hrW, hv5, hwa5, hwr5⟩
          have hvpos : 0 < valW vs := by
            rcases Nat.eq_zero_or_pos (valW vs) with h | h
            · have h1 := HWIN.out.2.2.2.2.2
              rw [h] at h1; omega
            · exact h
          have hVn : valW vs < W64 ^ n := by have := valW_lt vs HV.out.2.2; rw [HV.out.2.1] at this; exact this
          have hUn : valW win < W64 ^ (n + 1) := by have := valW_lt win HWIN.out.2.1; rw [HWIN.out.1] at this; exact this
          have hrn := valW_lt rs hrW
          rw [hrl, HN1.out] at hrn
          rw [HPV.out.2.2, HN1.out, Nat.mul_comm (valW vs) g] at hv5
          have hK := kn_sub (valW win) (valW vs) 0 g n (valW rs) c5 hvpos hVn HG.out.2.1 HG.out.2.2 hc5 hrn hv5 hUn
          obtain ⟨z, hz1, hz2, hz3⟩ := val_top_split rs n (by rw [hrl]; exact HN1.out)
          have hxu := HW.out.xu
          have hllj := HST.out.1
          have hlj1 : (lo' ++ win).length = jq := by rw [List.length_append, hllj, HWIN.out.1]; have := HJQ.out; have := HN1.out; omega
          have hu5 : WA w5 gu 0 (lo' ++ rs ++ zs) := by
            have h1 : WA w5 gu 0 lo' := (HGU.out.left.left.hp (w' := w3.drew) rfl).keep hwr5 (.inr (.inl (by omega)))
            have h2 : WA w5 gu (0 + (lo' ++ win).length) zs := (HGU.out.right.hp (w' := w3.drew) rfl).keep hwr5 (.inr (.inr (by rw [hlj1]; have := HJQ.out; omega)))
            refine (h1.app (by rw [Nat.zero_add, hllj]; exact hwa5)).app ?_
            rw [show (lo' ++ rs).length = (lo' ++ win).length by rw [List.length_append, List.length_append, hrl, HWIN.out.1, HN1.out]]
            exact h2
          rw [hz1] at hu5
          have hq5 : WA w5 gq 0 qs' := (HGQ.out.hp (w' := w3.drew) rfl).keep hwr5 (.inl hqu)
          have hL5 : LR gu gq gx o (n + 1) W w5 := HL3.out.dw.trans (LR.wrU hwr5)
          have htl : (rs.take n).length = n := by rw [List.length_take, hrl, HN1.out]; omega
          have htW : ∀ x ∈ rs.take n, x < W64 := fun x hx => hrW x (List.mem_of_mem_take hx)
          have hjmd : ((j : Int) == (m : Int)) = false := by simp; omega
          have hjmd2 : (j == m) = false := by simp; omega
          have hjmi : (j : Int) < (m : Int) := by omega
          rcases Nat.eq_zero_or_pos c5 with hc0 | hc1
          · as_aux_lemma =>
              subst hc0
              obtain ⟨hK1, hK2⟩ := hK.1 rfl
              have hz0 : z = 0 := by
                rcases Nat.eq_zero_or_pos z with h | h
                · exact h
                · have : W64 ^ n * 1 ≤ W64 ^ n * z := Nat.mul_le_mul_left _ h
                  omega
              subst hz0
              rw [Nat.mul_zero, Nat.add_zero] at hz3
              have hu5b : WA w5 gu 0 (lo' ++ rs.take n ++ (0 :: zs)) := by
                rw [show lo' ++ rs.take n ++ (0 :: zs) = lo' ++ (rs.take n ++ [0]) ++ zs by simp]; exact hu5
              obtain ⟨t2, ht2⟩ : ∃ t2, (rs.take n)[n - 1]? = some t2 := ⟨_, List.getElem?_eq_getElem (by omega)⟩
              have ca5 := hu5b.left.right.at ht2
              rw [Nat.zero_add, hllj, show j + (n - 1) = ja by have := HJ.out; omega] at ca5
              obtain ⟨ux, hux⟩ : ∃ ux, qs'[j]? = some ux := ⟨_, List.getElem?_eq_getElem (by have := HQ3.out.1; omega)⟩
              have cq5 := hq5.at hux
              rw [Nat.zero_add] at cq5
              have hrq5 := hL5.row _ _ HW.out.rq
              have hfq := hrq5.free j
              have hLs : LR gu gq gx o (n + 1) W (w5.setCell ⟨gq, j, none⟩ (.int .u64 (g : Int))) := hL5.trans (LR.wrQ (((Wr.refl gq j 1 w5)).set (Nat.le_refl _) (by omega) _))
              have hQs := db_putq HQ3.out.1 HQ3.out.2.1 hq5 hrq5 hmq hjm HG.out.1
              have hUs : WA (w5.setCell ⟨gq, j, none⟩ (.int .u64 (g : Int))) gu 0 (lo' ++ rs.take n ++ (0 :: zs)) := hu5b.keep ((Wr.refl gq j 1 w5).set (Nat.le_refl _) (by omega) _) (.inl (Ne.symm hqu))
              have HF := Lib.hid (db_round (lo := lo) (mid := mid) (win := win) hLs hQs hllj hjm HJ.out.1 HST.out.2.1 (fun x hx => HA4.out.1 x (by rw [HST.out.2.2.2.2.2.1]; exact List.mem_append_left _ hx)) HST.out.2.2.1 hvpos htl htW (by rw [← hz3]; exact hK1) ht2 (by rw [HST.out.2.2.2.2.2.1, HST.out.2.2.2.2.2.2]; simp) HST.out.2.2.2.1 hUs)
              rw [show ((0 : Nat) : Int) = 0 from rfl]
              clear hc5 hrl hrW hv5 hwa5 hwr5 hvpos hVn hUn hrn hK hK1 hK2 hz1 hz2 hz3 hllj hlj1 hu5 hq5 hL5 htl htW hu5b ht2 hux hrq5 hLs hQs hUs
              go_wp2
              go_roundw
              case rel => exact ⟨j, t2, by omega, rfl, rfl, HF.out⟩
              case measure => have := HJ.out.1; simp [intOf]; try omega
          · as_aux_lemma =>
              have hc51 : c5 = 1 := by omega
              subst hc51
              have hK1 := hK.2 rfl
              have hg1 : 1 ≤ g := by
                rcases Nat.eq_zero_or_pos g with h | h
                · rw [h] at hv5; omega
                · exact h
              have hjn2 : jn = j + n := HJ.out.2.1
              have hv5b : WA w5 gv ov vs := ((HWV.out.keep HWR.out (by by_cases h : gv = gx; exact .inr (.inl (by rw [HV.out.2.1]; exact HW.out.xv h.symm)); exact .inl h)).hp (w' := w3.drew) rfl).keep hwr5 (.inl hvu)
              have hu5c : WA w5 gu 0 ((lo' ++ rs.take n) ++ (z :: zs)) := by
                rw [show (lo' ++ rs.take n) ++ (z :: zs) = lo' ++ (rs.take n ++ [z]) ++ zs by simp]; exact hu5
              have ht5 : WA w5 gu j (rs.take n) := by
                have h1 := hu5c.left.right
                rw [Nat.zero_add, hllj] at h1
                exact h1
              have hru5 := hL5.row _ _ HW.out.ru
              have HADD := Lib.hid (add_vv_r gu j cu gu j gv ov n (cu - j) (cu - j) cv (rs.take n) vs w5.drew (hru5.hp rfl) (by omega) htl HV.out.2.1 (by omega) (ht5.hp rfl) (hv5b.hp rfl) (Ok.same _ _ _) (Ok.apart hvu) htW HV.out.2.2)
              have hsu2 := fun W' => nat_mid W' gu 0 mn cu j jn (by omega) (by have := HALL.out.2.2; omega)
              rw [Nat.zero_add, show jn - j = n by omega] at hsu2
              have hwjn : IntKind.i64.wrap (jn : Int) = (jn : Int) := wrap_i64_mid _ (by omega) (by omega)
              have hgW := HG.out.1
              obtain ⟨gm, hgm⟩ : ∃ gm : Nat, (g : Int) - 1 = (gm : Int) ∧ gm = g - 1 := ⟨g - 1, by omega, rfl⟩
              have hgm1 := hgm.1
              have hgmW : gm < W64 := by omega
              have hwgm : IntKind.u64.wrap (gm : Int) = (gm : Int) := wrap64_small _ (by omega) (by unfold W64 at hgmW; omega)
              have AB := Lib.hid (fun (c7 : Nat) (r7 : List Nat) (w7 : World) (h1 : r7.length = n) (h2 : ∀ x ∈ r7, x < W64) (h3 : valW r7 + W64 ^ n * c7 = valW (rs.take n) + valW vs) (h4 : WA w7 gu j r7) (h5 : Wr gu j n w5.drew w7) => db_add (w5 := w5) (w5' := w5.drew) (lo := lo) (mid := mid) (win := win) (i := i) (ja := ja) (mn := mn) rfl HW.out.ru HW.out.rq hL5 (hL5.dw.trans (LR.wrU h5)) hu5c hq5 h4 h5 hllj htl h1 h2 hjn2 HJ.out.2.2.1 hn1 hqu hjm hmq HALL.out.2.2.2.2 (by rw [HALL.out.2.2.2.2]; exact hmu) HQ3.out.1 HQ3.out.2.1 hvpos hVn (by rw [← hz3]; rw [Nat.pow_succ] at hK1; exact hK1) h3 HJ.out.1 HST.out.2.1 (fun x hx => HA4.out.1 x (by rw [HST.out.2.2.2.2.2.1]; exact List.mem_append_left _ hx)) HST.out.2.2.1 (by rw [HST.out.2.2.2.2.2.1, HST.out.2.2.2.2.2.2]; simp) HST.out.2.2.2.1 hgmW)
              clear hc5 hrl hrW hv5 hwa5 hwr5 hvpos hVn hUn hrn hK hK1 hz1 hz2 hz3 hlj1 hu5 hq5 hL5 htl htW hu5c ht5 hru5 hg1 hv5b hgm hgmW hgW hllj hjn2
              go_wp2_with fail
              go_still_tail 13, (by kernel_rfl)
              go_wp2_with fail
              refine HADD.out.mono ?_
              rintro e w7 ⟨c7, r7, rfl, hc7, hr7l, hr7W, hv7, hwa7, hwr7⟩
              obtain ⟨hzc, cz, hfu, hfq, hjnja, hjnmn, t2, ux, ca7, cq7, hF⟩ := AB.out c7 r7 w7 hr7l hr7W hv7 hwa7 hwr7
              have HF := Lib.hid hF
              obtain ⟨zz, hzz, hzze⟩ : ∃ zz : Nat, (z : Int) + (c7 : Int) = (zz : Int) ∧ zz = 18446744073709551616 := ⟨z + c7, by omega, by unfold W64 at hzc; omega⟩
              have hwzz : IntKind.u64.wrap (zz : Int) = 0 := by rw [hzze, IntKind.wrap_u64]; rfl
              clear hc7 hr7l hr7W hv7 hwa7 hwr7 hzc hzze hF AB
              go_wp2
              go_roundw
              case rel => exact ⟨j, t2, by omega, rfl, rfl, HF.out⟩
              case measure => have := HJ.out.1; simp [intOf]; try omega
end Go.Proofs.YtndeolcamgnmdaaGreatDoor
