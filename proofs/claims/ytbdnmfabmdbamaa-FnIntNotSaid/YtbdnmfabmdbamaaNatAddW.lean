/- One added to a natural. -/
import Derived.Test.YtbdnmfabmdbamaaNatAdd
namespace Go.Proofs.Ytbdnmfabmdbamaa
open Go.RowKit
theorem lst1 (m r0 : Nat) : [r0] ++ (List.replicate (m + 1) 0).drop 1 = r0 :: List.replicate m 0 := by simp
theorem lst2 (m r0 : Nat) (rs : List Nat) (hm : 1 ≤ m) : (r0 :: List.replicate m 0).take 1 ++ rs ++ (r0 :: List.replicate m 0).drop (1 + (m - 1)) = r0 :: (rs ++ [0]) := by
  obtain ⟨k, rfl⟩ : ∃ k, m = k + 1 := ⟨m - 1, by omega⟩
  simp [Nat.add_comm 1 k]
theorem lst3 (m r0 c : Nat) (rs : List Nat) (h : rs.length + 1 = m) : (r0 :: (rs ++ [0])).set m c = r0 :: (rs ++ [c]) := by
  subst h
  rw [List.set_cons_succ, List.set_append_right _ _ (Nat.le_refl _), Nat.sub_self]
  rfl
theorem val_cons (r : Nat) (l : List Nat) : valW (r :: l) = r + W64 * valW l := rfl
theorem val_snoc (l : List Nat) (c : Nat) : valW (l ++ [c]) = valW l + W64 ^ l.length * c := by rw [valW_append]; simp [valW]
theorem add1_val {x0 r0 c c' : Nat} {xs rs : List Nat} (h1 : r0 + W64 * c = x0 + 1) (h2 : valW rs + W64 ^ rs.length * c' = valW xs + c) : valW (r0 :: (rs ++ [c'])) = valW (x0 :: xs) + 1 := by
  rw [val_cons, val_cons, val_snoc, h2, Nat.mul_add]
  omega
theorem OW.only1 {w w' : World} {B g c n gz : Nat} {l : List Nat} (h : OW w B (.slice (some ⟨g, 0, none⟩) n c) l) (k : Only (· = gz) w w') (hne : g ≠ gz) : OW w' B (.slice (some ⟨g, 0, none⟩) n c) l :=
  ⟨own_only h.1 k (fun g' e => by
    have : g = g' := by simpa [Value.ownBlock] using e
    omega), h.2⟩
set_option maxRecDepth 20000 in
set_option maxHeartbeats 4000000 in
theorem nat_add1 (Bx By gx cx gy cy m : Nat) (ws : List Nat) (w : World) (hx : OW w Bx (.slice (some ⟨gx, 0, none⟩) m cx) ws) (hy : OW w By (.slice (some ⟨gy, 0, none⟩) 1 cy) [1]) (hl : ws.length ≤ 1000) (hm : 1 ≤ m) :
    Calls Try.prog 86 #[.slice none 0 0, .slice (some ⟨gx, 0, none⟩) m cx, .slice (some ⟨gy, 0, none⟩) 1 cy] w (NatPost (valW ws + 1) w) := by
  have hml := hx.len
  have hcx : m ≤ cx := by
    rcases hx.form with ⟨h, _⟩ | ⟨_, _, h, _, _, h1, _⟩
    · exact absurd h (by intro e; injection e with e1; cases e1)
    · injection h with _ e1 e2; omega
  have hcy : 1 ≤ cy := by
    rcases hy.form with ⟨h, _⟩ | ⟨_, _, h, _, _, h1, _⟩
    · exact absurd h (by intro e; injection e with e1; cases e1)
    · injection h with _ e1 e2; subst e2; exact h1
  have hgx : gx < w.heap.size := (hx.1.lt _ rfl).2
  have hgy : gy < w.heap.size := (hy.1.lt _ rfl).2
  obtain ⟨mm, hmm⟩ : ∃ mm : Nat, (m : Int) + 1 = (mm : Int) := ⟨m + 1, by omega⟩
  have hmm2 : mm = m + 1 := by omega
  obtain ⟨x0, xr, hws⟩ : ∃ x0 xr, ws = x0 :: xr := by
    cases ws with
    | nil => simp at hml; omega
    | cons a r => exact ⟨a, r, rfl⟩
  have hd1 : decide ((m : Int) < 1) = false := by simp; omega
  have hd2 : decide (m < 1) = false := by simp; omega
  have hd3 : ((m : Int) == 0) = false := by rw [beq_eq_false_iff_ne]; omega
  have hm2 : m ≤ 1000 := by omega
  have HX := Lib.hid hx
  have HY := Lib.hid hy
  have HML := Lib.hid hml
  have HWS := Lib.hid hws
  have HMM := Lib.hid hmm2
  have HMK := Lib.hid (nat_make mm (by omega))
  clear hx hy hml hws hmm2 hl
  go_enter Try.func86, Try.ntmps86
  go_wp2_with fail
  refine (HMK.out _).mono ?_
  rintro e w1 ⟨⟨v, rfl, hz⟩, hb1⟩
  obtain ⟨gz, cz, hv, hgz, _, hcz, _⟩ : ∃ g cap, v = .slice (some ⟨g, 0, none⟩) (List.replicate mm 0).length cap ∧ w.heap.size ≤ g ∧ g < w1.heap.size ∧ (List.replicate mm 0).length ≤ cap ∧ cap ≤ maxLen := by
    rcases hz.form with ⟨_, h⟩ | h
    · exfalso
      have := congrArg List.length h
      simp at this
      have := HMM.out
      omega
    · exact h
  rw [List.length_replicate] at hv hcz
  subst hv
  have HZ := Lib.hid hz
  have HB1 := Lib.hid hb1
  have hne : gx ≠ gz := by omega
  have hney : gy ≠ gz := by omega
  have HX1 := Lib.hid (HX.out.below hb1)
  have HY1 := Lib.hid (HY.out.below hb1)
  have hs1 := nat_to gz mm cz 1 (by omega) (by omega)
  have hs2 := nat_to gx m cx 1 (by omega) (by omega)
  have hs3 := nat_to gy 1 cy 1 (by omega) (by omega)
  rw [show ((1 : Nat) : Int) = 1 from rfl] at hs1 hs2 hs3
  clear hz hb1
  go_wp2_with fail
  go_still_tail 9, (by kernel_rfl)
  go_wp2_with fail
  have hx' := HX1.out
  rw [HWS.out] at hx'
  have S1 : ∀ W', Only (· = gz) w1.drew W' → ∀ j (h : j < [x0].length), W'.cell? ⟨gx, j, none⟩ = some (.int .u64 (([x0][j]'h : Nat) : Int)) := fun W' hO j h => by
    obtain rfl : j = 0 := by simp at h; exact h
    exact (hx'.heap (w' := w1.drew) rfl).src hne W' hO 0 (by simp)
  have S2 : ∀ W', Only (· = gz) w1.drew W' → ∀ j (h : j < [1].length), W'.cell? ⟨gy, j, none⟩ = some (.int .u64 (([1][j]'h : Nat) : Int)) := fun W' hO j h => by
    obtain rfl : j = 0 := by simp at h; exact h
    exact (HY1.out.heap (w' := w1.drew) rfl).src hney W' hO 0 (by simp)
  have hx64 : ∀ x ∈ x0 :: xr, x < W64 := hx'.2
  refine (addVV_any (add_vv w.heap.size gz mm cz 1 cz gx cx gy cy (List.replicate mm 0) [x0] [1] w1.drew (HZ.out.heap (w' := w1.drew) rfl) (by simp; omega) rfl rfl (by omega) S1 S2 (fun x hxm => hx64 x (by simp at hxm; simp [hxm])) (fun x hxm => by simp at hxm; subst hxm; unfold W64; omega))).mono ?_
  rintro e w2 ⟨c, rs, rfl, hc, hrl, hv, how2, hO2⟩
  obtain ⟨r0, rfl⟩ : ∃ r0, rs = [r0] := List.length_eq_one_iff.1 hrl
  have hv' : r0 + W64 * c = x0 + 1 := by simpa [valW] using hv
  have how2' : OW w2 w.heap.size (.slice (some ⟨gz, 0, none⟩) mm cz) (r0 :: List.replicate m 0) := by
    have e := lst1 m r0
    rw [← HMM.out] at e
    rw [← e]; exact how2
  have hO2' : Only (· = gz) w1 w2 := ((Only.refl _ w1).drew).trans hO2
  have HV := Lib.hid hv'
  have HO2 := Lib.hid hO2'
  have hx2 := HX1.out
  rw [HWS.out] at hx2
  have HXR : Hid (xr.length + 1 = m) := by unfold Hid; have := HML.out; rw [HWS.out] at this; simp at this; omega
  have HX64 := Lib.hid hx64
  have hc64 : c < W64 := by unfold W64; omega
  clear S1 S2 hrl hv how2 hO2 hv' hO2' hx' hx64
  by_cases hm1 : m = 1
  · subst hm1
    have hq : decide (1 < 1) = false := by decide
    have hxr : xr = [] := List.eq_nil_of_length_eq_zero (by have := HXR.out; omega)
    have HXR0 := Lib.hid hxr
    have hml4 : 1 < (r0 :: List.replicate 1 0).length := by simp
    have how4c := how2'
    clear hxr how2' hx2
    have hcell := how4c.cell 1 hml4
    have hfree := how4c.free 1
    have how5 : OW (w2.setCell ⟨gz, 1, none⟩ (.int .u64 (c : Int))) w.heap.size (.slice (some ⟨gz, 0, none⟩) mm cz) (r0 :: ([] ++ [c])) := (show (r0 :: List.replicate 1 0).set 1 c = r0 :: ([] ++ [c]) from rfl) ▸ how4c.store 1 c hc64
    have hO5 := HO2.out.setCell (p := ⟨gz, 1, none⟩) (.inl rfl) (.int .u64 (c : Int))
    have HO5 := Lib.hid hO5
    have hmlt : (1 : Int) < (mm : Int) := by omega
    have hgzw : gz < w2.heap.size := (how4c.1.lt _ rfl).2
    have HNM := Lib.hid (fun W hW => nat_norm w.heap.size (.slice (some ⟨gz, 0, none⟩) mm cz) (r0 :: ([] ++ [c])) (by simp) W (how5.heap (w' := W) hW))
    clear how5 hO5 how4c
    go_wp2_with fail
    refine (HNM.out _ rfl).mono ?_
    rintro e w6 ⟨v6, l6, rfl, h61, h62, h63, rfl⟩
    have H61 := Lib.hid h61
    have H62 := Lib.hid h62
    have H63 := Lib.hid h63
    have HBF : Hid (Below w.heap.size w (w2.setCell ⟨gz, 1, none⟩ (.int .u64 (c : Int)))) := (HB1.out.trans ((HO5.out.to_below (B := w.heap.size) (by exact HB1.out.size) (fun k _ e => by omega)) : Below w.heap.size w1 _))
    clear h61 h62 h63
    go_wp2
    go_ret
    exact ⟨v6, l6, rfl, H61.out, by rw [H62.out]; exact by rw [HWS.out, HXR0.out]; exact add1_val (rs := []) (xs := []) HV.out (by simp [valW]), H63.out, HBF.out⟩
  · obtain ⟨k, hk⟩ : ∃ k, k = m - 1 := ⟨_, rfl⟩
    have hk1 : 1 ≤ k := by omega
    have hq1 : decide ((1 : Int) < (m : Int)) = true := by simp; omega
    have hq2 : decide (1 < m) = true := by simp; omega
    have hs4 := nat_mid gz mm cz 1 m (by omega) (by omega)
    have hs5 := nat_from gx m cx 1 (by omega) hcx
    rw [show ((1 : Nat) : Int) = 1 from rfl, ← hk] at hs4 hs5
    have HK := Lib.hid hk
    have HOW2 := Lib.hid how2'
    have HX2 := Lib.hid hx2
    obtain ⟨cz1, hcz1⟩ : ∃ q, q = cz - 1 := ⟨_, rfl⟩
    obtain ⟨cx1, hcx1⟩ : ∃ q, q = cx - 1 := ⟨_, rfl⟩
    rw [← hcz1] at hs4
    rw [← hcx1] at hs5
    have hcz2 : k ≤ cz1 := by omega
    have hcx2 : k ≤ cx1 := by omega
    clear hk how2' hx2 hm1 hcz1 hcx1
    go_wp2_with fail
    go_still_tail 8, (by kernel_rfl)
    go_wp2_with fail
    have hx4 := (HX2.out.only1 HO2.out hne).heap (w' := w2.drew) rfl
    have S3 : ∀ W', Only (· = gz) w2.drew W' → ∀ j (h : j < xr.length), W'.cell? ⟨gx, 1 + j, none⟩ = some (.int .u64 ((xr[j]'h : Nat) : Int)) := fun W' hO j h => by
      have := hx4.src hne W' hO (1 + j) (by simp; omega)
      rw [this]
      simp [Nat.add_comm 1 j]
    refine (add_vw w.heap.size gz mm cz 1 k cz1 gx 1 cx1 (r0 :: List.replicate m 0) xr c w2.drew (HOW2.out.heap (w' := w2.drew) rfl) hk1 (by have := HK.out; simp; omega) hcz2 hcx2 (by have := HXR.out; have := HK.out; omega) (by have := HK.out; omega) (by have := HK.out; omega) hc64 hne S3 hx4.row (fun x hxm => HX64.out x (by simp [hxm]))).mono ?_
    rintro e w3 ⟨c', rs2, rfl, hc', hrl2, hv2, how3, hO3⟩
    have hc64' : c' < W64 := by unfold W64; omega
    have HRL2 : Hid (rs2.length + 1 = m) := by unfold Hid; have := HK.out; omega
    have HV2 : Hid (valW rs2 + W64 ^ rs2.length * c' = valW xr + c) := by unfold Hid; rw [hrl2]; exact hv2
    have how4c : OW w3 w.heap.size (.slice (some ⟨gz, 0, none⟩) mm cz) (r0 :: (rs2 ++ [0])) := by
      rw [HK.out, lst2 m r0 rs2 hm] at how3
      exact how3
    have HO3 := Lib.hid (((HO2.out).drew).trans hO3)
    have hml4 : m < (r0 :: (rs2 ++ [0])).length := by have := HRL2.out; simp; omega
    clear hx4 S3 hrl2 hv2 how3 hO3
    have hcell := how4c.cell m hml4
    have hfree := how4c.free m
    have how5 : OW (w3.setCell ⟨gz, m, none⟩ (.int .u64 (c' : Int))) w.heap.size (.slice (some ⟨gz, 0, none⟩) mm cz) (r0 :: (rs2 ++ [c'])) := (lst3 m r0 c' rs2 HRL2.out) ▸ how4c.store m c' hc64'
    have hO5 := HO3.out.setCell (p := ⟨gz, m, none⟩) (.inl rfl) (.int .u64 (c' : Int))
    have HO5 := Lib.hid hO5
    have hmlt : (m : Int) < (mm : Int) := by omega
    have hgzw : gz < w3.heap.size := (how4c.1.lt _ rfl).2
    have HNM := Lib.hid (fun W hW => nat_norm w.heap.size (.slice (some ⟨gz, 0, none⟩) mm cz) (r0 :: (rs2 ++ [c'])) (by have := HRL2.out; simp; omega) W (how5.heap (w' := W) hW))
    clear how5 hO5 how4c
    go_wp2_with fail
    refine (HNM.out _ rfl).mono ?_
    rintro e w6 ⟨v6, l6, rfl, h61, h62, h63, rfl⟩
    have H61 := Lib.hid h61
    have H62 := Lib.hid h62
    have H63 := Lib.hid h63
    have HBF : Hid (Below w.heap.size w (w3.setCell ⟨gz, m, none⟩ (.int .u64 (c' : Int)))) := (HB1.out.trans ((HO5.out.to_below (B := w.heap.size) (by exact HB1.out.size) (fun k _ e => by omega)) : Below w.heap.size w1 _))
    clear h61 h62 h63
    go_wp2
    go_ret
    exact ⟨v6, l6, rfl, H61.out, by rw [H62.out, HWS.out]; exact add1_val HV.out HV2.out, H63.out, HBF.out⟩
end Go.Proofs.Ytbdnmfabmdbamaa
