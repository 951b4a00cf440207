/- One taken from a natural. -/
import Derived.Test.YtbdnmfabmdbamaaNatAddW
namespace Go.Proofs.Ytbdnmfabmdbamaa
open Go.RowKit
theorem sub1_val {x0 r0 c c' : Nat} {xs rs : List Nat} (h1 : r0 + 1 = x0 + W64 * c) (h2 : valW rs + c = valW xs + W64 ^ rs.length * c') : valW (r0 :: rs) + 1 = valW (x0 :: xs) + W64 ^ (rs.length + 1) * c' := by
  rw [val_cons, val_cons, Nat.pow_succ, Nat.mul_comm (W64 ^ _) W64, Nat.mul_assoc]
  have e : W64 * (valW rs + c) = W64 * (valW xs + W64 ^ rs.length * c') := by rw [h2]
  rw [Nat.mul_add, Nat.mul_add] at e
  omega
set_option maxRecDepth 20000 in
set_option maxHeartbeats 4000000 in
theorem nat_sub1 (Bx By gx cx gy cy m : Nat) (ws : List Nat) (w : World) (hx : OW w Bx (.slice (some ⟨gx, 0, none⟩) m cx) ws) (hy : OW w By (.slice (some ⟨gy, 0, none⟩) 1 cy) [1]) (hl : ws.length ≤ 1000) (hm : 1 ≤ m) (hpos : 1 ≤ valW ws) :
    Calls Try.prog 84 #[.slice none 0 0, .slice (some ⟨gx, 0, none⟩) m cx, .slice (some ⟨gy, 0, none⟩) 1 cy] w (NatPost (valW ws - 1) w) := by
  have hml := hx.len
  have hcx : m ≤ cx := by
    rcases hx.form with ⟨h, _⟩ | ⟨_, _, h, _, _, h1, _⟩
    · exact absurd h (by intro e; injection e with e1; cases e1)
    · injection h with _ e1 e2; omega
  have hcy : 1 ≤ cy := by
    rcases hy.form with ⟨h, _⟩ | ⟨_, _, h, _, _, h1, _⟩
    · exact absurd h (by intro e; injection e with e1; cases e1)
    · injection h with _ e1 e2; subst e2; exact h1
  have hgx : gx < w.heap.size := (hx.1.lt _ rfl).2
  have hgy : gy < w.heap.size := (hy.1.lt _ rfl).2
  obtain ⟨x0, xr, hws⟩ : ∃ x0 xr, ws = x0 :: xr := by
    cases ws with
    | nil => simp at hml; omega
    | cons a r => exact ⟨a, r, rfl⟩
  have hd1 : decide ((m : Int) < 1) = false := by simp; omega
  have hd2 : decide (m < 1) = false := by simp; omega
  have hd3 : ((m : Int) == 0) = false := by rw [beq_eq_false_iff_ne]; omega
  have hm2 : m ≤ 1000 := by omega
  have HX := Lib.hid hx
  have HY := Lib.hid hy
  have HML := Lib.hid hml
  have HWS := Lib.hid hws
  have HPOS := Lib.hid hpos
  have HMK := Lib.hid (nat_make m (by omega))
  clear hx hy hml hws hl hpos
  go_enter Try.func84, Try.ntmps84
  go_wp2_with fail
  refine (HMK.out _).mono ?_
  rintro e w1 ⟨⟨v, rfl, hz⟩, hb1⟩
  obtain ⟨gz, cz, hv, hgz, _, hcz, _⟩ : ∃ g cap, v = .slice (some ⟨g, 0, none⟩) (List.replicate m 0).length cap ∧ w.heap.size ≤ g ∧ g < w1.heap.size ∧ (List.replicate m 0).length ≤ cap ∧ cap ≤ maxLen := by
    rcases hz.form with ⟨_, h⟩ | h
    · exfalso
      have := congrArg List.length h
      simp at this
      omega
    · exact h
  rw [List.length_replicate] at hv hcz
  subst hv
  have HZ := Lib.hid hz
  have HB1 := Lib.hid hb1
  have hne : gx ≠ gz := by omega
  have hney : gy ≠ gz := by omega
  have HX1 := Lib.hid (HX.out.below hb1)
  have HY1 := Lib.hid (HY.out.below hb1)
  have hs1 := nat_to gz m cz 1 (by omega) (by omega)
  have hs2 := nat_to gx m cx 1 (by omega) (by omega)
  have hs3 := nat_to gy 1 cy 1 (by omega) (by omega)
  rw [show ((1 : Nat) : Int) = 1 from rfl] at hs1 hs2 hs3
  clear hz hb1
  go_wp2_with fail
  go_still_tail 9, (by kernel_rfl)
  go_wp2_with fail
  have hx' := HX1.out
  rw [HWS.out] at hx'
  have S1 : ∀ W', Only (· = gz) w1.drew W' → ∀ j (h : j < [x0].length), W'.cell? ⟨gx, j, none⟩ = some (.int .u64 (([x0][j]'h : Nat) : Int)) := fun W' hO j h => by
    obtain rfl : j = 0 := by simp at h; exact h
    exact (hx'.heap (w' := w1.drew) rfl).src hne W' hO 0 (by simp)
  have S2 : ∀ W', Only (· = gz) w1.drew W' → ∀ j (h : j < [1].length), W'.cell? ⟨gy, j, none⟩ = some (.int .u64 (([1][j]'h : Nat) : Int)) := fun W' hO j h => by
    obtain rfl : j = 0 := by simp at h; exact h
    exact (HY1.out.heap (w' := w1.drew) rfl).src hney W' hO 0 (by simp)
  have hx64 : ∀ x ∈ x0 :: xr, x < W64 := hx'.2
  refine (subVV_any (sub_vv w.heap.size gz m cz 1 cz gx cx gy cy (List.replicate m 0) [x0] [1] w1.drew (HZ.out.heap (w' := w1.drew) rfl) (by simp; omega) rfl rfl (by omega) S1 S2 (fun x hxm => hx64 x (by simp at hxm; simp [hxm])) (fun x hxm => by simp at hxm; subst hxm; unfold W64; omega))).mono ?_
  rintro e w2 ⟨c, rs, rfl, hc, hrl, hv, how2, hO2⟩
  obtain ⟨r0, rfl⟩ : ∃ r0, rs = [r0] := List.length_eq_one_iff.1 hrl
  have hv' : r0 + 1 = x0 + W64 * c := by simpa [valW] using hv
  have how2' : OW w2 w.heap.size (.slice (some ⟨gz, 0, none⟩) m cz) (r0 :: List.replicate (m - 1) 0) := by
    have e : [r0] ++ (List.replicate m 0).drop 1 = r0 :: List.replicate (m - 1) 0 := by simp
    rw [← e]; exact how2
  have hO2' : Only (· = gz) w1 w2 := ((Only.refl _ w1).drew).trans hO2
  have HV := Lib.hid hv'
  have HO2 := Lib.hid hO2'
  have hx2 := HX1.out
  rw [HWS.out] at hx2
  have HXR : Hid (xr.length + 1 = m) := by unfold Hid; have := HML.out; rw [HWS.out] at this; simp at this; omega
  have HX64 := Lib.hid hx64
  have hc64 : c < W64 := by unfold W64; omega
  clear S1 S2 hrl hv how2 hO2 hv' hO2' hx' hx64
  have hr064 : r0 < W64 := how2'.2 r0 (by simp)
  have HR0 := Lib.hid hr064
  by_cases hm1 : m = 1
  · subst hm1
    have hq : decide (1 < 1) = false := by decide
    have hxr : xr = [] := List.eq_nil_of_length_eq_zero (by have := HXR.out; omega)
    have hc0 : c = 0 := by
      have h1 := HPOS.out
      have h2 := HV.out
      rw [HWS.out, hxr] at h1
      simp [valW] at h1
      rcases Nat.eq_zero_or_pos c with h | h
      · exact h
      · exfalso
        obtain rfl : c = 1 := by omega
        omega
    have HXR0 := Lib.hid hxr
    subst hc0
    have HNM := Lib.hid (fun W hW => nat_norm w.heap.size (.slice (some ⟨gz, 0, none⟩) 1 cz) (r0 :: List.replicate (1 - 1) 0) (by simp) W (how2'.heap (w' := W) hW))
    clear hxr how2' hx2 hr064
    rw [show ((0 : Nat) : Int) = 0 from rfl]
    go_wp2_with fail
    refine (HNM.out _ rfl).mono ?_
    rintro e w6 ⟨v6, l6, rfl, h61, h62, h63, rfl⟩
    have H61 := Lib.hid h61
    have H62 := Lib.hid h62
    have H63 := Lib.hid h63
    have HBF : Hid (Below w.heap.size w w2) := (HB1.out.trans ((HO2.out.to_below (B := w.heap.size) (by exact HB1.out.size) (fun k _ e => by omega)) : Below w.heap.size w1 _))
    clear h61 h62 h63
    go_wp2
    go_ret
    exact ⟨v6, l6, rfl, H61.out, by rw [H62.out, HWS.out, HXR0.out]; have := HV.out; simp [valW]; omega, H63.out, HBF.out⟩
  · obtain ⟨k, hk⟩ : ∃ k, k = m - 1 := ⟨_, rfl⟩
    have hk1 : 1 ≤ k := by omega
    have hq1 : decide ((1 : Int) < (m : Int)) = true := by simp; omega
    have hq2 : decide (1 < m) = true := by simp; omega
    have hs4 := nat_from gz m cz 1 (by omega) (by omega)
    have hs5 := nat_from gx m cx 1 (by omega) hcx
    rw [show ((1 : Nat) : Int) = 1 from rfl, ← hk] at hs4 hs5
    have HK := Lib.hid hk
    have HOW2 := Lib.hid how2'
    have HX2 := Lib.hid hx2
    obtain ⟨cz1, hcz1⟩ : ∃ q, q = cz - 1 := ⟨_, rfl⟩
    obtain ⟨cx1, hcx1⟩ : ∃ q, q = cx - 1 := ⟨_, rfl⟩
    rw [← hcz1] at hs4
    rw [← hcx1] at hs5
    have hcz2 : k ≤ cz1 := by omega
    have hcx2 : k ≤ cx1 := by omega
    clear hk how2' hx2 hm1 hcz1 hcx1 hr064
    go_wp2_with fail
    go_still_tail 7, (by kernel_rfl)
    go_wp2_with fail
    have hx4 := (HX2.out.only1 HO2.out hne).heap (w' := w2.drew) rfl
    have S3 : ∀ W', Only (· = gz) w2.drew W' → ∀ j (h : j < xr.length), W'.cell? ⟨gx, 1 + j, none⟩ = some (.int .u64 ((xr[j]'h : Nat) : Int)) := fun W' hO j h => by
      have := hx4.src hne W' hO (1 + j) (by simp; omega)
      rw [this]
      simp [Nat.add_comm 1 j]
    refine (sub_vw w.heap.size gz m cz 1 k cz1 gx 1 cx1 (r0 :: List.replicate (m - 1) 0) xr c w2.drew (HOW2.out.heap (w' := w2.drew) rfl) hk1 (by have := HK.out; simp; omega) hcz2 hcx2 (by have := HXR.out; have := HK.out; omega) (by have := HK.out; omega) (by have := HK.out; omega) hc64 hne S3 hx4.row (fun x hxm => HX64.out x (by simp [hxm]))).mono ?_
    rintro e w3 ⟨c', rs2, rfl, hc', hrl2, hv2, how3, hO3⟩
    have HRL2 : Hid (rs2.length + 1 = m) := by unfold Hid; have := HK.out; omega
    have HV2 : Hid (valW rs2 + c = valW xr + W64 ^ rs2.length * c') := by unfold Hid; rw [hrl2]; exact hv2
    have how4c : OW w3 w.heap.size (.slice (some ⟨gz, 0, none⟩) m cz) (r0 :: rs2) := by
      rw [HK.out, show (r0 :: List.replicate (m - 1) 0).take 1 ++ rs2 ++ (r0 :: List.replicate (m - 1) 0).drop (1 + (m - 1)) = r0 :: rs2 by rw [Nat.add_comm 1, List.drop_succ_cons]; simp] at how3
      exact how3
    have hc0 : c' = 0 := by
      have h1 := HPOS.out
      have h2 := sub1_val HV.out HV2.out
      rw [HWS.out] at h1
      have h3 := valW_lt (r0 :: rs2) how4c.2
      rcases Nat.eq_zero_or_pos c' with h | h
      · exact h
      · exfalso
        obtain rfl : c' = 1 := by omega
        rw [List.length_cons] at h3
        omega
    have HVAL := Lib.hid (sub1_val HV.out HV2.out)
    subst hc0
    have HO3 := Lib.hid (((HO2.out).drew).trans hO3)
    have HNM := Lib.hid (fun W hW => nat_norm w.heap.size (.slice (some ⟨gz, 0, none⟩) m cz) (r0 :: rs2) (by have := HRL2.out; simp; omega) W (how4c.heap (w' := W) hW))
    clear hx4 S3 hrl2 hv2 how3 hO3 how4c
    rw [show ((0 : Nat) : Int) = 0 from rfl]
    go_wp2_with fail
    refine (HNM.out _ rfl).mono ?_
    rintro e w6 ⟨v6, l6, rfl, h61, h62, h63, rfl⟩
    have H61 := Lib.hid h61
    have H62 := Lib.hid h62
    have H63 := Lib.hid h63
    have HBF : Hid (Below w.heap.size w w3) := (HB1.out.trans ((HO3.out.to_below (B := w.heap.size) (by exact HB1.out.size) (fun k _ e => by omega)) : Below w.heap.size w1 _))
    clear h61 h62 h63
    go_wp2
    go_ret
    exact ⟨v6, l6, rfl, H61.out, by rw [H62.out, HWS.out]; have := HVAL.out; rw [Nat.mul_zero, Nat.add_zero] at this; omega, H63.out, HBF.out⟩
end Go.Proofs.Ytbdnmfabmdbamaa
