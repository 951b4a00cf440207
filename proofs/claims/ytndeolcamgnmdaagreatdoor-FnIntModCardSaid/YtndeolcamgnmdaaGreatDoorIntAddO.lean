/- An integer added to one of the other sign that is nearer to 0, over the latter. (Written by tools/intadd_gen.py.) -/
import Derived.Test.YtndeolcamgnmdaaGreatDoorNatSubA
import Derived.Deep.RegionHeld3
import Derived.Deep.DrawnRows
set_option linter.unusedVariables false
set_option linter.unusedSimpArgs false
set_option linter.unnecessarySimpa false
namespace Go.Proofs.YtndeolcamgnmdaaGreatDoor
open Go.RowKit
attribute [local go_sem ↓] Go.wp_at_zero Go.wp_at_succ
def AddOPost (B br : Nat) (nb : Bool) (R : Nat) (w : World) (e : Ending) (w' : World) : Prop :=
  ∃ ws, e = .returned (.pointer (some ⟨br, 0, none⟩)) ∧ BigI w' B br nb ws ∧ valW ws = R ∧ Only (fun k => k = br ∨ B ≤ k) w w'
theorem addo_fin {w w1 : World} {B br : Nat} {rn nb : Bool} {v0 v : Value} {ws : List Nat} {R : Nat} (hr : Blk w1 br 60 #[.bool rn, v0]) (hB : br < B) (how : OW w1 B v ws) (ht : TopNZ ws) (hl : ws.length ≤ 1000) (hv : valW ws = R) (hR : 0 < R) (hb : Only (fun k => k = br ∨ B ≤ k) w w1) :
    AddOPost B br nb R w (.returned (.pointer (some ⟨br, 0, none⟩))) ((w1.setCell ⟨br, 1, none⟩ v).setCell ⟨br, 0, none⟩ (.bool nb)) := by
  have hO : Only (· = br) w1 ((w1.setCell ⟨br, 1, none⟩ v).setCell ⟨br, 0, none⟩ (.bool nb)) := ((Only.refl (fun x => x = br) w1).setCell (p := ⟨br, 1, none⟩) (.inl rfl) v).setCell (p := ⟨br, 0, none⟩) (.inl rfl) _
  have h1 : Blk ((w1.setCell ⟨br, 1, none⟩ v).setCell ⟨br, 0, none⟩ (.bool nb)) br 60 #[.bool nb, v] := by simpa using (hr.put 1 v).put 0 (.bool nb)
  exact ⟨ws, rfl, ⟨v, h1, how.only hO (fun g hg e => by omega), ht, fun _ e => by rw [e] at hv; simp [valW] at hv; omega, hl⟩, hv, hb.trans (hO.mono (fun _ _ h => .inl h))⟩
theorem only_belowB {B br : Nat} {w w' : World} (h : Below B w w') : Only (fun k => k = br ∨ B ≤ k) w w' := ⟨h.os, h.tape, h.output, h.size, fun i _ hs => h.block i (Nat.lt_of_not_le (fun e => hs (.inr e)))⟩
theorem keep_one {W : World} {a p : Addr} {u x : Value} (h : W.cell? a = some u) (ha : p ≠ a) : (W.setCell p x).cell? a = some u := (World.cell?_setCell_other W p a x ha).trans h
set_option maxRecDepth 20000 in
set_option maxHeartbeats 4000000 in
theorem int_add_over (B br by_ g n c gy m cy By : Nat) (rn yn : Bool) (rs vs : List Nat) (w : World) (hr : Blk w br 60 #[.bool rn, .slice (some ⟨g, 0, none⟩) n c]) (howr : OW w B (.slice (some ⟨g, 0, none⟩) n c) rs) (htr : TopNZ rs) (hy : Blk w by_ 60 #[.bool yn, .slice (some ⟨gy, 0, none⟩) m cy]) (howy : OW w By (.slice (some ⟨gy, 0, none⟩) m cy) vs) (hty : TopNZ vs)
    (hne : by_ ≠ br) (hbr : br < B) (hgy : gy ≠ g) (hby : by_ < B) (hB : B ≤ w.heap.size) (hsg : (rn == yn) = false) (hn : 1 ≤ n) (hn2 : n ≤ 1000) (hm : m ≤ 1000) (hlt : valW rs < valW vs) :
    Calls Tryz.prog 34 #[.pointer (some ⟨br, 0, none⟩), .pointer (some ⟨br, 0, none⟩), .pointer (some ⟨by_, 0, none⟩)] w (AddOPost B br (!rn) (valW vs - valW rs) w) := by
  obtain ⟨r0, r1, fr0, fr1⟩ := blk2 hr
  obtain ⟨y0, y1, fy0, fy1⟩ := blk2 hy
  have hrl := hr.lt
  have hyl := hy.lt
  have hnl := howr.len
  have hml := howy.len
  have hc := (cmpN_val howr.2 howy.2 htr hty).2 hlt
  obtain ⟨q, hq⟩ : ∃ q, q = cmpN rs vs := ⟨_, rfl⟩
  have HCM : Hid (∀ W : World, W.heap = w.heap → Calls Tryz.prog 45 #[.slice (some ⟨g, 0, none⟩) n c, .slice (some ⟨gy, 0, none⟩) m cy] W (CmpPost q W)) := fun W hW => by
    rw [hq]; exact nat_cmp B By _ _ rs vs W (howr.heap hW) (howy.heap hW) (by omega) (by omega)
  rw [← hq] at hc
  have hd : decide ((0 : Int) ≤ q) = false := by simp; omega
  obtain ⟨R, hR⟩ : ∃ R, R = valW vs - valW rs := ⟨_, rfl⟩
  rw [← hR]
  have HSB : Hid (∀ W : World, W.heap = w.heap → Calls Tryz.prog 46 #[.slice (some ⟨g, 0, none⟩) n c, .slice (some ⟨gy, 0, none⟩) m cy, .slice (some ⟨g, 0, none⟩) n c] W (SubZPost B R W)) := fun W hW => by
    rw [hR]; exact nat_sub_z B g n c gy m cy By vs rs W (howr.heap hW) (howy.heap hW) hgy hn (by rw [hW]; exact hB) hm htr (Nat.le_of_lt hlt)
  have HRP : Hid (0 < R) := by unfold Hid; omega
  have HB := Lib.hid (And.intro hr hy)
  clear hr hy howr howy htr hty hnl hml hq hc hlt hR
  go_enter Tryz.func34, Tryz.ntmps34
  go_wp2_with fail
  go_quiet (fail)
  go_wp2_with fail
  refine wp_region_held_drew (S := fun W => W.cell? ⟨br, 1, none⟩ = some (.slice (some ⟨g, 0, none⟩) n c) ∧ W.cell? ⟨by_, 1, none⟩ = some (.slice (some ⟨gy, 0, none⟩) m cy)) (by kernel_rfl) ⟨r1, y1⟩ (fun hHeld => ?_)
  refine wpAnyH_take (i := 0) (v := ?_) rfl (by kernel_rfl) (by kernel_rfl) (by kernel_rfl) (fun _ _ _ h => h) (Or.inl ⟨by rfl, ?_⟩) (by assumption) ?_
  rotate_left
  · intro w9 hSw
    (try dsimp only at hSw)
    go_simp
    (try with_reducible rfl)
  try simp only [Act.put, List.getElem_toArray, List.getElem_cons_zero, List.getElem_cons_succ, List.setIfInBounds_toArray, List.set_cons_zero, List.set_cons_succ]
  refine wpAnyH_take (i := 1) (v := ?_) rfl (by kernel_rfl) (by kernel_rfl) (by kernel_rfl) (fun _ _ _ h => h) (Or.inl ⟨by rfl, ?_⟩) (by assumption) ?_
  rotate_left
  · intro w9 hSw
    (try dsimp only at hSw)
    go_simp
    (try with_reducible rfl)
  try simp only [Act.put, List.getElem_toArray, List.getElem_cons_zero, List.getElem_cons_succ, List.setIfInBounds_toArray, List.set_cons_zero, List.set_cons_succ]
  refine wpAnyH_take (i := 2) (v := ?_) rfl (by kernel_rfl) (by kernel_rfl) (by kernel_rfl) (fun _ _ _ h => h) (Or.inl ⟨by rfl, ?_⟩) (by assumption) ?_
  rotate_left
  · intro w9 hSw
    (try dsimp only at hSw)
    go_simp
    (try with_reducible rfl)
  try simp only [Act.put, List.getElem_toArray, List.getElem_cons_zero, List.getElem_cons_succ, List.setIfInBounds_toArray, List.set_cons_zero, List.set_cons_succ]
  refine wpAnyH_take (i := 3) (v := ?_) rfl (by kernel_rfl) (by kernel_rfl) (by kernel_rfl) (fun _ _ _ h => h) (Or.inl ⟨by rfl, ?_⟩) (by assumption) ?_
  rotate_left
  · intro w9 hSw
    (try dsimp only at hSw)
    go_simp
    (try with_reducible rfl)
  try simp only [Act.put, List.getElem_toArray, List.getElem_cons_zero, List.getElem_cons_succ, List.setIfInBounds_toArray, List.set_cons_zero, List.set_cons_succ]
  refine wpAnyH_take (i := 4) (v := ?_) rfl (by kernel_rfl) (by kernel_rfl) (by kernel_rfl) (fun _ _ _ h => h) (Or.inl ⟨by rfl, ?_⟩) (by assumption) ?_
  rotate_left
  · intro w9 hSw
    (try dsimp only at hSw)
    go_simp
    (try with_reducible rfl)
  try simp only [Act.put, List.getElem_toArray, List.getElem_cons_zero, List.getElem_cons_succ, List.setIfInBounds_toArray, List.set_cons_zero, List.set_cons_succ]
  refine wpAnyH_take (i := 5) (v := ?_) rfl (by kernel_rfl) (by kernel_rfl) (by kernel_rfl) (fun _ _ _ h => h) (Or.inl ⟨by rfl, ?_⟩) (by assumption) ?_
  rotate_left
  · intro w9 hSw
    (try dsimp only at hSw)
    go_simp
    (try with_reducible rfl)
  try simp only [Act.put, List.getElem_toArray, List.getElem_cons_zero, List.getElem_cons_succ, List.setIfInBounds_toArray, List.set_cons_zero, List.set_cons_succ]
  refine wpAnyH_take (i := 6) (v := ?_) rfl (by kernel_rfl) (by kernel_rfl) (by kernel_rfl) (fun _ _ _ h => h) (Or.inl ⟨by rfl, ?_⟩) (by assumption) ?_
  rotate_left
  · intro w9 hSw
    (try dsimp only at hSw)
    go_simp
    (try with_reducible rfl)
  try simp only [Act.put, List.getElem_toArray, List.getElem_cons_zero, List.getElem_cons_succ, List.setIfInBounds_toArray, List.set_cons_zero, List.set_cons_succ]
  refine wpAnyH_take (i := 7) (v := ?_) rfl (by kernel_rfl) (by kernel_rfl) (by kernel_rfl) (fun _ _ _ h => h) (Or.inl ⟨by rfl, ?_⟩) (by assumption) ?_
  rotate_left
  · intro w9 hSw
    (try dsimp only at hSw)
    go_simp
    (try with_reducible rfl)
  try simp only [Act.put, List.getElem_toArray, List.getElem_cons_zero, List.getElem_cons_succ, List.setIfInBounds_toArray, List.set_cons_zero, List.set_cons_succ]
  refine wpAnyH_ready (rs := [8]) (by kernel_rfl) (by simp) ?_
  refine AllReadyH.cons rfl (fun K hK => ?_) AllReadyH.nil
  go_simp
  refine (HCM.out _ ?hw).mono ?_
  case hw => rfl
  rintro e w3 ⟨rfl, q3, rfl⟩
  go_wp2_with fail
  refine hK.out _ _ (⟨r1, y1⟩) (fun hHeld => ?_)
  clear hK K
  try simp only [Act.put, List.getElem_toArray, List.getElem_cons_zero, List.getElem_cons_succ, List.setIfInBounds_toArray, List.set_cons_zero, List.set_cons_succ]
  refine wpAnyH_take (i := 9) (v := ?_) rfl (by kernel_rfl) (by kernel_rfl) (by kernel_rfl) (fun _ _ _ h => h) (Or.inl ⟨by rfl, ?_⟩) (by assumption) ?_
  rotate_left
  · intro w9 hSw
    (try dsimp only at hSw)
    go_simp
    (try with_reducible rfl)
  try simp only [Act.put, List.getElem_toArray, List.getElem_cons_zero, List.getElem_cons_succ, List.setIfInBounds_toArray, List.set_cons_zero, List.set_cons_succ]
  refine wpAnyH_done (by kernel_rfl) ?_ _
  obtain ⟨W4, hW4⟩ : ∃ W, W = w.drewN (nq + 1 + q3) := ⟨_, rfl⟩
  have hh4 : Hid (W4.drew.heap = w.heap) := by rw [hW4]; rfl
  have hb4 : Hid (Below B w W4.drew) := by rw [hW4]; exact (below_dn (Below.refl _ w) _).drew
  have r1d : W4.drew.cell? ⟨br, 1, none⟩ = some (.slice (some ⟨g, 0, none⟩) n c) := by rw [hW4]; exact r1
  have y1d : W4.drew.cell? ⟨by_, 1, none⟩ = some (.slice (some ⟨gy, 0, none⟩) m cy) := by rw [hW4]; exact y1
  have HB4 : Hid (Blk W4.drew br 60 #[.bool rn, .slice (some ⟨g, 0, none⟩) n c]) := by rw [hW4]; exact (HB.out.1.drewN _).drew
  rw [← hW4]
  clear hW4 r0 fr0 fr1 y0 fy0 fy1 HCM r1 y1
  go_wp2_with fail
  refine wp_region_held_drew (S := fun W => W.cell? ⟨by_, 1, none⟩ = some (.slice (some ⟨gy, 0, none⟩) m cy)) (by kernel_rfl) y1d (fun hHeld => ?_)
  refine wpAnyH_take (i := 0) (v := ?_) rfl (by kernel_rfl) (by kernel_rfl) (by kernel_rfl) (fun _ _ _ h => h) (Or.inl ⟨by rfl, ?_⟩) (by assumption) ?_
  rotate_left
  · intro w9 hSw
    (try dsimp only at hSw)
    go_simp
    (try with_reducible rfl)
  try simp only [Act.put, List.getElem_toArray, List.getElem_cons_zero, List.getElem_cons_succ, List.setIfInBounds_toArray, List.set_cons_zero, List.set_cons_succ]
  refine wpAnyH_take (i := 1) (v := ?_) rfl (by kernel_rfl) (by kernel_rfl) (by kernel_rfl) (fun _ _ _ h => h) (Or.inl ⟨by rfl, ?_⟩) (by assumption) ?_
  rotate_left
  · intro w9 hSw
    (try dsimp only at hSw)
    go_simp
    (try with_reducible rfl)
  try simp only [Act.put, List.getElem_toArray, List.getElem_cons_zero, List.getElem_cons_succ, List.setIfInBounds_toArray, List.set_cons_zero, List.set_cons_succ]
  refine wpAnyH_take (i := 2) (v := ?_) rfl (by kernel_rfl) (by kernel_rfl) (by kernel_rfl) (fun _ _ _ h => h) (Or.inl ⟨by rfl, ?_⟩) (by assumption) ?_
  rotate_left
  · intro w9 hSw
    (try dsimp only at hSw)
    go_simp
    (try with_reducible rfl)
  try simp only [Act.put, List.getElem_toArray, List.getElem_cons_zero, List.getElem_cons_succ, List.setIfInBounds_toArray, List.set_cons_zero, List.set_cons_succ]
  refine wpAnyH_take (i := 3) (v := ?_) rfl (by kernel_rfl) (by kernel_rfl) (by kernel_rfl) (fun _ _ _ h => h) (Or.inl ⟨by rfl, ?_⟩) (by assumption) ?_
  rotate_left
  · intro w9 hSw
    (try dsimp only at hSw)
    go_simp
    (try with_reducible rfl)
  try simp only [Act.put, List.getElem_toArray, List.getElem_cons_zero, List.getElem_cons_succ, List.setIfInBounds_toArray, List.set_cons_zero, List.set_cons_succ]
  refine wpAnyH_take (i := 5) (v := ?_) rfl (by kernel_rfl) (by kernel_rfl) (by kernel_rfl) (fun _ _ _ h => h) (Or.inl ⟨by rfl, ?_⟩) (by assumption) ?_
  rotate_left
  · intro w9 hSw
    (try dsimp only at hSw)
    go_simp
    (try with_reducible rfl)
  try simp only [Act.put, List.getElem_toArray, List.getElem_cons_zero, List.getElem_cons_succ, List.setIfInBounds_toArray, List.set_cons_zero, List.set_cons_succ]
  refine wpAnyH_take (i := 6) (v := ?_) rfl (by kernel_rfl) (by kernel_rfl) (by kernel_rfl) (fun _ _ _ h => h) (Or.inl ⟨by rfl, ?_⟩) (by assumption) ?_
  rotate_left
  · intro w9 hSw
    (try dsimp only at hSw)
    go_simp
    (try with_reducible rfl)
  try simp only [Act.put, List.getElem_toArray, List.getElem_cons_zero, List.getElem_cons_succ, List.setIfInBounds_toArray, List.set_cons_zero, List.set_cons_succ]
  refine wpAnyH_take (i := 7) (v := ?_) rfl (by kernel_rfl) (by kernel_rfl) (by kernel_rfl) (fun _ _ _ h => h) (Or.inl ⟨by rfl, ?_⟩) (by assumption) ?_
  rotate_left
  · intro w9 hSw
    (try dsimp only at hSw)
    go_simp
    (try with_reducible rfl)
  try simp only [Act.put, List.getElem_toArray, List.getElem_cons_zero, List.getElem_cons_succ, List.setIfInBounds_toArray, List.set_cons_zero, List.set_cons_succ]
  refine wpAnyH_take (i := 8) (v := ?_) rfl (by kernel_rfl) (by kernel_rfl) (by kernel_rfl) (fun _ _ _ h => h) (Or.inl ⟨by rfl, ?_⟩) (by assumption) ?_
  rotate_left
  · intro w9 hSw
    (try dsimp only at hSw)
    go_simp
    (try with_reducible rfl)
  try simp only [Act.put, List.getElem_toArray, List.getElem_cons_zero, List.getElem_cons_succ, List.setIfInBounds_toArray, List.set_cons_zero, List.set_cons_succ]
  refine wpAnyH_take (i := 9) (v := ?_) rfl (by kernel_rfl) (by kernel_rfl) (by kernel_rfl) (fun _ _ _ h => h) (Or.inl ⟨by rfl, ?_⟩) (by assumption) ?_
  rotate_left
  · intro w9 hSw
    (try dsimp only at hSw)
    go_simp
    (try with_reducible rfl)
  try simp only [Act.put, List.getElem_toArray, List.getElem_cons_zero, List.getElem_cons_succ, List.setIfInBounds_toArray, List.set_cons_zero, List.set_cons_succ]
  refine wpAnyH_take (i := 10) (v := ?_) rfl (by kernel_rfl) (by kernel_rfl) (by kernel_rfl) (fun _ _ _ h => h) (Or.inl ⟨by rfl, ?_⟩) (by assumption) ?_
  rotate_left
  · intro w9 hSw
    (try dsimp only at hSw)
    go_simp
    (try with_reducible rfl)
  try simp only [Act.put, List.getElem_toArray, List.getElem_cons_zero, List.getElem_cons_succ, List.setIfInBounds_toArray, List.set_cons_zero, List.set_cons_succ]
  refine wpAnyH_take (i := 11) (v := ?_) rfl (by kernel_rfl) (by kernel_rfl) (by kernel_rfl) (fun _ _ _ h => h) (Or.inl ⟨by rfl, ?_⟩) (by assumption) ?_
  rotate_left
  · intro w9 hSw
    (try dsimp only at hSw)
    go_simp
    (try with_reducible rfl)
  try simp only [Act.put, List.getElem_toArray, List.getElem_cons_zero, List.getElem_cons_succ, List.setIfInBounds_toArray, List.set_cons_zero, List.set_cons_succ]
  refine wpAnyH_ready (rs := [4, 12]) (by kernel_rfl) (by simp) ?_
  refine AllReadyH.cons rfl (fun K hK => ?_) (AllReadyH.cons rfl (fun K hK => ?_) AllReadyH.nil)
  · go_simp
    refine hK.out _ _ (hHeld) (fun hHeld => ?_)
    clear hK K
    try simp only [Act.put, List.getElem_toArray, List.getElem_cons_zero, List.getElem_cons_succ, List.setIfInBounds_toArray, List.set_cons_zero, List.set_cons_succ]
    refine wpAnyH_ready (rs := [12]) (by kernel_rfl) (by simp) ?_
    refine AllReadyH.cons rfl (fun K hK => ?_) AllReadyH.nil
    go_simp
    refine hK.out _ _ (hHeld) (fun hHeld => ?_)
    clear hK K
    try simp only [Act.put, List.getElem_toArray, List.getElem_cons_zero, List.getElem_cons_succ, List.setIfInBounds_toArray, List.set_cons_zero, List.set_cons_succ]
    refine wpAnyH_ready (rs := [13]) (by kernel_rfl) (by simp) ?_
    refine AllReadyH.cons rfl (fun K hK => ?_) AllReadyH.nil
    go_simp
    refine (HSB.out _ hh4.out).mono ?_
    rintro e w5 ⟨v5, ws, rfl, how5, hv5, ht5, hl5, hb5⟩
    have hbr5 := HB4.out.below hb5 hbr
    obtain ⟨k0, k1, f0, f1⟩ := blk2 hbr5
    have y1e : w5.cell? ⟨by_, 1, none⟩ = some (.slice (some ⟨gy, 0, none⟩) m cy) := (hb5.cell (p := ⟨by_, 1, none⟩) hby).trans y1d
    obtain ⟨a5, c5, hs5⟩ := how5.shape
    obtain ⟨n5, hn5⟩ : ∃ n, n = ws.length := ⟨_, rfl⟩
    rw [← hn5] at hs5
    subst hs5
    have hp5 : 0 < n5 := by
      rcases Nat.eq_zero_or_pos n5 with h | h
      · exfalso
        have h2 := List.length_eq_zero_iff.1 (hn5.symm.trans h)
        have h3 := HRP.out
        rw [h2] at hv5; simp [valW] at hv5; omega
      · exact h
    have dn1 : decide ((0 : Int) < (n5 : Int)) = true := by simp; omega
    have dn2 : decide (0 < n5) = true := by simp; omega
    have HF := Lib.hid (addo_fin (nb := !rn) hbr5 hbr how5 ht5 hl5 hv5 HRP.out (only_belowB (hb4.out.trans hb5)))
    have hwl5 : br < w5.heap.size := hbr5.lt
    clear hbr5 how5 hv5 ht5 hl5 hb5 hn5 hp5
    go_wp2_with fail
    refine hK.out _ _ (y1e) (fun hHeld => ?_)
    clear hK K
    try simp only [Act.put, List.getElem_toArray, List.getElem_cons_zero, List.getElem_cons_succ, List.setIfInBounds_toArray, List.set_cons_zero, List.set_cons_succ]
    refine wpAnyH_take (i := 14) (v := ?_) rfl (by kernel_rfl) (by kernel_rfl) (by kernel_rfl) (fun _ _ _ h => h) (Or.inl ⟨by rfl, ?_⟩) (by assumption) ?_
    rotate_left
    · intro w9 hSw
      (try dsimp only at hSw)
      go_simp
      (try with_reducible rfl)
    try simp only [Act.put, List.getElem_toArray, List.getElem_cons_zero, List.getElem_cons_succ, List.setIfInBounds_toArray, List.set_cons_zero, List.set_cons_succ]
    refine wpAnyH_take (i := 15) (v := ?_) rfl (by kernel_rfl) (by kernel_rfl) (by kernel_rfl) (fun _ _ _ h => h) (Or.inl ⟨by rfl, ?_⟩) (by assumption) ?_
    rotate_left
    · intro w9 hSw
      (try dsimp only at hSw)
      go_simp
      (try with_reducible rfl)
    try simp only [Act.put, List.getElem_toArray, List.getElem_cons_zero, List.getElem_cons_succ, List.setIfInBounds_toArray, List.set_cons_zero, List.set_cons_succ]
    refine wpAnyH_ready (rs := [16]) (by kernel_rfl) (by simp) ?_
    refine AllReadyH.cons rfl (fun K hK => ?_) AllReadyH.nil
    go_simp
    refine hK.out _ _ (keep_one hHeld (by intro e; injection e with e1 _ _; exact hne e1.symm)) (fun hHeld => ?_)
    clear hK K
    try simp only [Act.put, List.getElem_toArray, List.getElem_cons_zero, List.getElem_cons_succ, List.setIfInBounds_toArray, List.set_cons_zero, List.set_cons_succ]
    refine wpAnyH_done (by kernel_rfl) ?_ _
    go_wp2
    go_ret
    exact HF.out
  · go_simp
    refine hK.out _ _ (hHeld) (fun hHeld => ?_)
    clear hK K
    try simp only [Act.put, List.getElem_toArray, List.getElem_cons_zero, List.getElem_cons_succ, List.setIfInBounds_toArray, List.set_cons_zero, List.set_cons_succ]
    refine wpAnyH_ready (rs := [4]) (by kernel_rfl) (by simp) ?_
    refine AllReadyH.cons rfl (fun K hK => ?_) AllReadyH.nil
    go_simp
    refine hK.out _ _ (hHeld) (fun hHeld => ?_)
    clear hK K
    try simp only [Act.put, List.getElem_toArray, List.getElem_cons_zero, List.getElem_cons_succ, List.setIfInBounds_toArray, List.set_cons_zero, List.set_cons_succ]
    refine wpAnyH_ready (rs := [13]) (by kernel_rfl) (by simp) ?_
    refine AllReadyH.cons rfl (fun K hK => ?_) AllReadyH.nil
    go_simp
    refine (HSB.out _ hh4.out).mono ?_
    rintro e w5 ⟨v5, ws, rfl, how5, hv5, ht5, hl5, hb5⟩
    have hbr5 := HB4.out.below hb5 hbr
    obtain ⟨k0, k1, f0, f1⟩ := blk2 hbr5
    have y1e : w5.cell? ⟨by_, 1, none⟩ = some (.slice (some ⟨gy, 0, none⟩) m cy) := (hb5.cell (p := ⟨by_, 1, none⟩) hby).trans y1d
    obtain ⟨a5, c5, hs5⟩ := how5.shape
    obtain ⟨n5, hn5⟩ : ∃ n, n = ws.length := ⟨_, rfl⟩
    rw [← hn5] at hs5
    subst hs5
    have hp5 : 0 < n5 := by
      rcases Nat.eq_zero_or_pos n5 with h | h
      · exfalso
        have h2 := List.length_eq_zero_iff.1 (hn5.symm.trans h)
        have h3 := HRP.out
        rw [h2] at hv5; simp [valW] at hv5; omega
      · exact h
    have dn1 : decide ((0 : Int) < (n5 : Int)) = true := by simp; omega
    have dn2 : decide (0 < n5) = true := by simp; omega
    have HF := Lib.hid (addo_fin (nb := !rn) hbr5 hbr how5 ht5 hl5 hv5 HRP.out (only_belowB (hb4.out.trans hb5)))
    have hwl5 : br < w5.heap.size := hbr5.lt
    clear hbr5 how5 hv5 ht5 hl5 hb5 hn5 hp5
    go_wp2_with fail
    refine hK.out _ _ (y1e) (fun hHeld => ?_)
    clear hK K
    try simp only [Act.put, List.getElem_toArray, List.getElem_cons_zero, List.getElem_cons_succ, List.setIfInBounds_toArray, List.set_cons_zero, List.set_cons_succ]
    refine wpAnyH_take (i := 14) (v := ?_) rfl (by kernel_rfl) (by kernel_rfl) (by kernel_rfl) (fun _ _ _ h => h) (Or.inl ⟨by rfl, ?_⟩) (by assumption) ?_
    rotate_left
    · intro w9 hSw
      (try dsimp only at hSw)
      go_simp
      (try with_reducible rfl)
    try simp only [Act.put, List.getElem_toArray, List.getElem_cons_zero, List.getElem_cons_succ, List.setIfInBounds_toArray, List.set_cons_zero, List.set_cons_succ]
    refine wpAnyH_take (i := 15) (v := ?_) rfl (by kernel_rfl) (by kernel_rfl) (by kernel_rfl) (fun _ _ _ h => h) (Or.inl ⟨by rfl, ?_⟩) (by assumption) ?_
    rotate_left
    · intro w9 hSw
      (try dsimp only at hSw)
      go_simp
      (try with_reducible rfl)
    try simp only [Act.put, List.getElem_toArray, List.getElem_cons_zero, List.getElem_cons_succ, List.setIfInBounds_toArray, List.set_cons_zero, List.set_cons_succ]
    refine wpAnyH_ready (rs := [16]) (by kernel_rfl) (by simp) ?_
    refine AllReadyH.cons rfl (fun K hK => ?_) AllReadyH.nil
    go_simp
    refine hK.out _ _ (keep_one hHeld (by intro e; injection e with e1 _ _; exact hne e1.symm)) (fun hHeld => ?_)
    clear hK K
    try simp only [Act.put, List.getElem_toArray, List.getElem_cons_zero, List.getElem_cons_succ, List.setIfInBounds_toArray, List.set_cons_zero, List.set_cons_succ]
    refine wpAnyH_done (by kernel_rfl) ?_ _
    go_wp2
    go_ret
    exact HF.out
end Go.Proofs.YtndeolcamgnmdaaGreatDoor
