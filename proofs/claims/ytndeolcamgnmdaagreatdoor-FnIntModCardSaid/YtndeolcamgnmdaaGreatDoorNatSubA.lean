/- A natural taken from a greater one, written over the one that is taken, or anew where it lacks room. -/
import Derived.Test.YtndeolcamgnmdaaGreatDoorSubR
import Derived.Test.YtndeolcamgnmdaaGreatDoorNatDiv
import Derived.StillTailTactics
set_option linter.unusedVariables false
set_option linter.unusedSimpArgs false
set_option linter.unnecessarySimpa false
namespace Go.Proofs.YtndeolcamgnmdaaGreatDoor
open Go.RowKit
theorem nat_from0 (g n c k : Nat) (hk : k < n) (hc : n ≤ c) (w : World) :
    (Instr.slice 58 (.slice (some ⟨g, 0, none⟩) n c) (some (.int .i64 (k : Int))) none none).run Tryz.prog w = .ok (.slice (some ⟨g, k, none⟩) (n - k) (c - k)) w := by
  have h1 : ¬ c = k := by omega
  have h2 : k ≤ n := by omega
  simp [Instr.slice, run_underlying Tryz.underlying58, Instr.sliceBounds, Instr.sliceBound, asIntOf, h2, h1, Tryz.sizeOf83, Addr.add_lit]
/-- What a make over a row leaves: the row itself, or a new one. -/
def MakeZPost (g c n : Nat) (w : World) (e : Ending) (w' : World) : Prop :=
  ∃ gz cz, e = .returned (.slice (some ⟨gz, 0, none⟩) n cz) ∧ RowB w' gz cz ∧ n ≤ cz ∧ cz ≤ maxLen ∧ Below w.heap.size w w' ∧ ((gz = g ∧ cz = c) ∨ w.heap.size ≤ gz)
theorem make_z (g m c n : Nat) (hm : 1 ≤ m) (hmc : m ≤ c) (hcm : c ≤ maxLen) (hn : 1 ≤ n) (hnb : n ≤ 1000) (w : World) (hr : RowB w g c) :
    Calls Tryz.prog 47 #[.slice (some ⟨g, 0, none⟩) m c, .int .i64 (n : Int)] w (MakeZPost g c n w) := by
  by_cases h : n ≤ c
  · have hd : decide ((n : Int) ≤ (c : Int)) = true := by simp; omega
    have hd2 : decide (n ≤ c) = true := by simp; omega
    have hsl := nat_upto0 w g m c n h
    have HR := Lib.hid (And.intro hr (And.intro h hcm))
    clear hr h hcm
    go_enter Tryz.func47, Tryz.ntmps47
    go_wp2
    go_ret
    exact ⟨g, c, rfl, HR.out.1, HR.out.2.1, HR.out.2.2, Below.refl _ _, .inl ⟨rfl, rfl⟩⟩
  · have hd : decide ((n : Int) ≤ (c : Int)) = false := by simp; omega
    have hd2 : decide (n ≤ c) = false := by simp; omega
    have hb1 : ((n : Int) == 1) = false := by rw [beq_eq_false_iff_ne]; omega
    obtain ⟨k, hk⟩ : ∃ c : Nat, (n : Int) + 4 = (c : Int) := ⟨n + 4, by omega⟩
    obtain ⟨W1, hmk, how, hb⟩ := words_made n k (by omega) (by omega) w
    have HOW := Lib.hid how
    have HK : Hid (n ≤ k ∧ k ≤ maxLen) := by unfold Hid maxLen; omega
    have HB := Lib.hid hb
    clear how hb hr h hcm
    go_enter Tryz.func47, Tryz.ntmps47
    go_wp2
    go_ret
    exact ⟨w.heap.size, k, rfl, HOW.out.rowB, HK.out.1, HK.out.2, HB.out, .inr (Nat.le_refl _)⟩
def SubZPost (B N : Nat) (w : World) (e : Ending) (w' : World) : Prop := ∃ v ws, e = .returned v ∧ OW w' B v ws ∧ valW ws = N ∧ TopNZ ws ∧ ws.length ≤ 1000 ∧ Below B w w'
theorem ok_zero (g gx n : Nat) : Ok g 0 gx 0 n := fun i _ => by omega
theorem val_take_sub (xs : List Nat) (n : Nat) (h : n ≤ xs.length) : valW xs = valW (xs.take n) + W64 ^ n * valW (xs.drop n) := val_take_drop xs n h
theorem sub_no_carry {D Y X P c : Nat} (h : D + Y = X + P * c) (hD : D < P) (hc : c ≤ 1) (hle : Y ≤ X) : c = 0 := by
  rcases Nat.eq_zero_or_pos c with h0 | h0
  · exact h0
  · exfalso
    obtain rfl : c = 1 := by omega
    omega
set_option maxRecDepth 20000 in
set_option maxHeartbeats 4000000 in
theorem nat_sub_z (B g n c gx m cx Bx : Nat) (xs ys : List Nat) (w : World) (hy : OW w B (.slice (some ⟨g, 0, none⟩) n c) ys) (hx : OW w Bx (.slice (some ⟨gx, 0, none⟩) m cx) xs) (hne : gx ≠ g) (hn : 1 ≤ n) (hB : B ≤ w.heap.size) (hm : m ≤ 1000) (ty : TopNZ ys) (hle : valW ys ≤ valW xs) :
    Calls Tryz.prog 46 #[.slice (some ⟨g, 0, none⟩) n c, .slice (some ⟨gx, 0, none⟩) m cx, .slice (some ⟨g, 0, none⟩) n c] w (SubZPost B (valW xs - valW ys) w) := by
  have hxl := hx.len
  have hyl := hy.len
  have hnm : n ≤ m := by
    rcases Nat.lt_or_ge m n with h | h
    · have := len_val hx.2 ty (show xs.length < ys.length by omega)
      omega
    · exact h
  rcases hy.form with ⟨hv, _⟩ | ⟨g', c', hv, hgB, hgl, hc1, hc2⟩
  · cases hv
  simp only [Value.slice.injEq, Option.some.injEq, Addr.mk.injEq, and_true] at hv
  obtain ⟨rfl, -, rfl⟩ := hv
  have hcx : m ≤ cx := by
    rcases hx.form with ⟨h, _⟩ | ⟨_, _, h, _, _, h1, _⟩
    · cases h
    · injection h with _ e1 e2; omega
  have hgx := hx.rowB.lt
  have hd1 : decide ((m : Int) < (n : Int)) = false := by simp; omega
  have hd1' : decide (m < n) = false := by simp; omega
  have hd2 : ((m : Int) == 0) = false := by rw [beq_eq_false_iff_ne]; omega
  have hd3 : ((n : Int) == 0) = false := by rw [beq_eq_false_iff_ne]; omega
  have HMK := Lib.hid (make_z g n c m hn (by omega) hc2 (by omega) hm w hy.rowB)
  have HX := Lib.hid hx
  have HY := Lib.hid hy
  have HL := Lib.hid (And.intro hxl (And.intro hyl (And.intro hle hgB)))
  have hnc : n ≤ c := by omega
  have hs2 := fun W => nat_upto0 W gx m cx n (by omega)
  have hs3 := fun W => nat_upto0 W g n c n hnc
  clear hx hy hxl hyl ty hle hc1 hc2
  go_enter Tryz.func46, Tryz.ntmps46
  go_wp2_with fail
  refine HMK.out.mono ?_
  rintro e w1 ⟨gz, cz, rfl, hrz, hmz, hczm, hb1, hgz⟩
  have hgzB : B ≤ gz := by have := HL.out.2.2.2; rcases hgz with ⟨h, _⟩ | h <;> omega
  have hxz : gx ≠ gz := by rcases hgz with ⟨h, _⟩ | h <;> omega
  have hs1 := fun W => nat_upto0 W gz m cz n (by omega)
  have HXW := Lib.hid ((HX.out.below hb1).wa)
  have HYW := Lib.hid ((HY.out.below hb1).wa)
  have HXR := Lib.hid ((HX.out.below hb1).rowB)
  have HRZ := Lib.hid hrz
  have HMZ := Lib.hid (And.intro hmz hczm)
  have HB1 := Lib.hid hb1
  have hxt : WA w1 gx 0 (xs.take n) := by
    have h : WA w1 gx 0 (xs.take n ++ xs.drop n) := by rw [List.take_append_drop]; exact HXW.out
    exact h.left
  have HSUB := Lib.hid (sub_vv_r gz 0 cz gx 0 g 0 n cz cx c (xs.take n) ys w1.drew (hrz.hp rfl) (by omega) (by have := HL.out.1; simp; omega) HL.out.2.1.symm (by omega) (hxt.hp rfl) (HYW.out.hp rfl) (Ok.apart hxz) (ok_zero _ _ _) (fun x hx => HX.out.2 x (List.mem_of_mem_take hx)) HY.out.2)
  clear hrz hmz hczm hb1 hxt HMK hgz
  go_wp2_with fail
  go_still_tail 9, (by kernel_rfl)
  go_wp2_with fail
  refine HSUB.out.mono ?_
  rintro e w2 ⟨c1, rs, rfl, hc, hrl, hrW, hv, hwa, hwr⟩
  have HS := Lib.hid (And.intro hc (And.intro hrl (And.intro hrW (And.intro hv (And.intro hwa (show Wr gz 0 n w1 w2 from hwr.src rfl rfl rfl rfl))))))
  have hc64 : c1 < W64 := by unfold W64; omega
  clear hc hrl hrW hv hwa hwr HSUB
  rcases Nat.lt_or_ge n m with hlt | hge
  · have hq : decide ((n : Int) < (m : Int)) = true := by simp; omega
    have hq2 : decide (n < m) = true := by simp; omega
    obtain ⟨k, hk⟩ : ∃ k, k = m - n := ⟨_, rfl⟩
    obtain ⟨cz1, hcz1⟩ : ∃ q, q = cz - n := ⟨_, rfl⟩
    obtain ⟨cx1, hcx1⟩ : ∃ q, q = cx - n := ⟨_, rfl⟩
    have hs4 := fun W => nat_from0 gz m cz n hlt HMZ.out.1 W
    have hs5 := fun W => nat_from0 gx m cx n hlt hcx W
    rw [← hk, ← hcz1] at hs4
    rw [← hk, ← hcx1] at hs5
    have HK := Lib.hid hk
    have hxd : WA w2 gx (0 + n) (xs.drop n) := (HXW.out.keep HS.out.2.2.2.2.2 (.inl hxz)).drop n
    rw [Nat.zero_add] at hxd
    have HVW := Lib.hid (sub_vw_r gz n cz gx n k cz1 cx1 cx c1 (xs.drop n) w2.drew ((HS.out.2.2.2.2.2.rowB HRZ.out).hp rfl) (by have := HMZ.out.1; omega) (by omega) (by have := HMZ.out.1; omega) (by omega) (by have := HL.out.1; simp; omega) (by omega) (by omega) hc64 hxz (hxd.hp rfl) ((HS.out.2.2.2.2.2.rowB HXR.out).hp rfl) (fun x hx => HX.out.2 x (List.mem_of_mem_drop hx)))
    clear hk hcz1 hcx1 hxd
    go_wp2_with fail
    go_still_tail 7, (by kernel_rfl)
    go_wp2_with fail
    refine HVW.out.mono ?_
    rintro e w3 ⟨c2, rs2, rfl, hc2, hrl2, hrW2, hv2, hwa2, hwr2⟩
    obtain ⟨a1, a2, a3, a4, a5, a6⟩ := HS.out
    have hwr3 : Wr gz n k w2 w3 := hwr2.src rfl rfl rfl rfl
    have hfull : WA w3 gz 0 (rs ++ rs2) := by
      refine (a5.keep hwr3 (.inr (.inl (by omega)))).app ?_
      rw [a2, Nat.zero_add]; exact hwa2
    have hval : valW (rs ++ rs2) + valW ys = valW xs + W64 ^ m * c2 := by
      have e1 := val_take_sub xs n (by have := HL.out.1; omega)
      have e2 : W64 ^ n * (valW rs2 + c1) = W64 ^ n * (valW (xs.drop n) + W64 ^ k * c2) := by rw [hv2]
      have e3 : W64 ^ m = W64 ^ n * W64 ^ k := by rw [← Nat.pow_add]; congr 1; have := HK.out; omega
      rw [valW_append, a2, e3, e1]
      rw [Nat.mul_add, Nat.mul_add, ← Nat.mul_assoc] at e2
      omega
    have hlen : (rs ++ rs2).length = m := by rw [List.length_append, a2, hrl2, HK.out]; omega
    have hWall : ∀ z ∈ rs ++ rs2, z < W64 := fun z hz => by
      rcases List.mem_append.1 hz with h | h
      · exact a3 z h
      · exact hrW2 z h
    have hc20 : c2 = 0 := sub_no_carry hval (by have := valW_lt _ hWall; rw [hlen] at this; exact this) hc2 HL.out.2.2.1
    subst hc20
    rw [Nat.mul_zero, Nat.add_zero] at hval
    have how3 : OW w3 B (.slice (some ⟨gz, 0, none⟩) m cz) (rs ++ rs2) := ow_row (hwr3.rowB (a6.rowB HRZ.out)) hfull hlen.symm HMZ.out.1 HMZ.out.2 hgzB hWall
    have HNM := Lib.hid (nat_norm B _ (rs ++ rs2) (by omega) w3 how3)
    have HBF : Hid (Below B w w3) := ((HB1.out.mono hB).trans (a6.below hgzB (by have := HB1.out.size; omega))).trans (hwr3.below hgzB (by have := HB1.out.size; have := a6.size; omega))
    have HV := Lib.hid (And.intro hval (And.intro hlen hWall))
    clear a1 a2 a3 a4 a5 a6 hc2 hrl2 hrW2 hv2 hwa2 hwr2 hwr3 hfull hval hlen hWall how3 HVW
    rw [show ((0 : Nat) : Int) = 0 from rfl]
    go_wp2_with fail
    refine HNM.out.mono ?_
    rintro e w4 ⟨v4, l4, rfl, h1, h2, h3, rfl⟩
    have H4 := Lib.hid (show SubZPost B (valW xs - valW ys) w (.returned v4) w3 from ⟨v4, l4, rfl, h1, by have := HV.out.1; omega, h3, Nat.le_trans (topNZ_lenb h3 (Nat.le_of_eq h2) HV.out.2.2) (by rw [HV.out.2.1]; exact hm), HBF.out⟩)
    clear h1 h2 h3
    go_wp2
    go_ret
    exact H4.out
  · obtain rfl : n = m := by omega
    have hq : decide ((n : Int) < (n : Int)) = false := by simp
    have hq2 : decide (n < n) = false := by simp
    obtain ⟨a1, a2, a3, a4, a5, a6⟩ := HS.out
    rw [List.take_of_length_le (by have := HL.out.1; omega)] at a4
    have hc10 : c1 = 0 := sub_no_carry a4 (by have := valW_lt _ a3; rw [a2] at this; exact this) a1 HL.out.2.2.1
    rw [hc10, Nat.mul_zero, Nat.add_zero] at a4
    have how3 : OW w2 B (.slice (some ⟨gz, 0, none⟩) n cz) rs := ow_row (a6.rowB HRZ.out) a5 a2.symm HMZ.out.1 HMZ.out.2 hgzB a3
    have HNM := Lib.hid (nat_norm B _ rs (by omega) w2 how3)
    have HBF : Hid (Below B w w2) := (HB1.out.mono hB).trans (a6.below hgzB (by have := HB1.out.size; omega))
    have HV := Lib.hid (And.intro a4 (And.intro a2 a3))
    have HC1 := hc10
    clear a1 a2 a3 a4 a5 a6 how3 hc10 HS
    subst HC1
    rw [show ((0 : Nat) : Int) = 0 from rfl]
    go_wp2_with fail
    refine HNM.out.mono ?_
    rintro e w4 ⟨v4, l4, rfl, h1, h2, h3, rfl⟩
    have H4 := Lib.hid (show SubZPost B (valW xs - valW ys) w (.returned v4) w2 from ⟨v4, l4, rfl, h1, by have := HV.out.1; omega, h3, Nat.le_trans (topNZ_lenb h3 (Nat.le_of_eq h2) HV.out.2.2) (by rw [HV.out.2.1]; exact hm), HBF.out⟩)
    clear h1 h2 h3
    go_wp2
    go_ret
    exact H4.out
end Go.Proofs.YtndeolcamgnmdaaGreatDoor
