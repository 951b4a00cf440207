/- math/big's comparison of two naturals and of two integers, as far as equal goes; the integer of a small number. -/
import Derived.Test.YtmpfffcdpecadaaGreatIntSign
import Derived.Test.YtmpfffcdpecadaaGreatOrder
namespace Go.Proofs.YtmpfffcdpecadaaGreat
open Go.RowKit
/-- The words from the lowest on: the highest that differs decides. -/
def cmpRev : List Nat → List Nat → Int
  | x :: r, y :: t => if cmpRev r t = 0 then (if x < y then -1 else if y < x then 1 else 0) else cmpRev r t
  | _, _ => 0
def cmpN (xs ys : List Nat) : Int := if xs.length < ys.length then -1 else if ys.length < xs.length then 1 else cmpRev xs ys
theorem cmpRev_self : ∀ xs, cmpRev xs xs = 0
  | [] => rfl
  | x :: r => by simp [cmpRev, cmpRev_self r]
theorem cmpRev_eq : ∀ {xs ys : List Nat}, xs.length = ys.length → cmpRev xs ys = 0 → xs = ys
  | [], [], _, _ => rfl
  | [], _ :: _, h, _ => by simp at h
  | _ :: _, [], h, _ => by simp at h
  | x :: r, y :: t, h, e => by
    have hl : r.length = t.length := by simpa using h
    simp only [cmpRev] at e
    by_cases h0 : cmpRev r t = 0
    · rw [if_pos h0] at e
      have := cmpRev_eq hl h0
      subst this
      by_cases h1 : x < y
      · rw [if_pos h1] at e; simp at e
      · by_cases h2 : y < x
        · rw [if_neg h1, if_pos h2] at e; simp at e
        · rw [show x = y by omega]
    · rw [if_neg h0] at e
      exact absurd e h0
theorem cmpRev_bound : ∀ xs ys, -1 ≤ cmpRev xs ys ∧ cmpRev xs ys ≤ 1
  | [], _ => by simp [cmpRev]
  | _ :: _, [] => by simp [cmpRev]
  | x :: r, y :: t => by
    have := cmpRev_bound r t
    simp only [cmpRev]
    split
    · split
      · omega
      · split <;> omega
    · exact this
theorem cmpRev_at : ∀ {xs ys : List Nat} (i : Nat) (h1 : i < xs.length) (h2 : i < ys.length), xs.length = ys.length → (∀ j (hj : j < xs.length) (hk : j < ys.length), i < j → xs[j]'hj = ys[j]'hk) → ¬ xs[i]'h1 = ys[i]'h2 → cmpRev xs ys = if xs[i]'h1 < ys[i]'h2 then -1 else 1
  | [], _, i, h1, _, _, _, _ => by simp at h1
  | _ :: _, [], i, _, h2, _, _, _ => by simp at h2
  | x :: r, y :: t, 0, h1, h2, hl, ha, hne => by
    have hl' : r.length = t.length := by simpa using hl
    have hrt : r = t := List.ext_getElem hl' fun i hi hk => by
      have := ha (i + 1) (by simp; omega) (by simp; omega) (by omega)
      simpa using this
    subst hrt
    simp only [cmpRev, cmpRev_self, List.getElem_cons_zero] at *
    simp only [if_true]
    by_cases h : x < y
    · rw [if_pos h, if_pos h]
    · rw [if_neg h, if_neg h, if_pos (by omega)]
  | x :: r, y :: t, i + 1, h1, h2, hl, ha, hne => by
    have hl' : r.length = t.length := by simpa using hl
    have ih := cmpRev_at (xs := r) (ys := t) i (by simpa using h1) (by simpa using h2) hl' (fun j hj hk hij => by
      have := ha (j + 1) (by simp; omega) (by simp; omega) (by omega)
      simpa using this) (by simpa using hne)
    have hn0 : ¬ cmpRev r t = 0 := by rw [ih]; split <;> simp
    simp only [cmpRev, if_neg hn0, List.getElem_cons_succ]
    exact ih
theorem cmpN_bound (xs ys : List Nat) : -1 ≤ cmpN xs ys ∧ cmpN xs ys ≤ 1 := by
  have := cmpRev_bound xs ys
  unfold cmpN
  split
  · omega
  · split <;> omega
theorem cmpN_eq (xs ys : List Nat) : cmpN xs ys = 0 ↔ xs = ys := by
  refine ⟨fun e => ?_, fun e => by subst e; simp [cmpN, cmpRev_self]⟩
  unfold cmpN at e
  by_cases h1 : xs.length < ys.length
  · rw [if_pos h1] at e; simp at e
  · by_cases h2 : ys.length < xs.length
    · rw [if_neg h1, if_pos h2] at e; simp at e
    · rw [if_neg h1, if_neg h2] at e
      exact cmpRev_eq (by omega) e
theorem cmpN_at {xs ys : List Nat} (i : Nat) (h1 : i < xs.length) (h2 : i < ys.length) (hl : xs.length = ys.length) (ha : ∀ j (hj : j < xs.length) (hk : j < ys.length), i < j → xs[j]'hj = ys[j]'hk) {x y : Nat} (hx : x = xs[i]'h1) (hy : y = ys[i]'h2) (hne : ¬ x = y) : cmpN xs ys = if x < y then -1 else 1 := by
  subst hx hy
  unfold cmpN
  rw [if_neg (by omega), if_neg (by omega)]
  exact cmpRev_at i h1 h2 hl ha hne
def CmpPost (r : Int) (w : World) (e : Ending) (w' : World) : Prop := e = .returned (.int .i64 r) ∧ ∃ q, w' = w.drewN q
theorem dn0 (w : World) : ∃ q, w = w.drewN q := ⟨0, rfl⟩
theorem dn1 {w w1 : World} (h : ∃ q, w1 = w.drewN q) (n : Nat) : ∃ q, w1.drewN n = w.drewN q := by
  obtain ⟨q, rfl⟩ := h
  exact ⟨q + n, World.drewN_drewN _ _ _⟩
set_option maxRecDepth 20000 in
set_option maxHeartbeats 2000000 in
theorem nat_cmp (B1 B2 : Nat) (v1 v2 : Value) (xs ys : List Nat) (w : World) (h1 : OW w B1 v1 xs) (h2 : OW w B2 v2 ys) (hl : xs.length ≤ 1000) (hl2 : ys.length ≤ 1000) :
    Calls Tryz.prog 125 #[v1, v2] w (CmpPost (cmpN xs ys) w) := by
  have H1 := Lib.hid h1
  have H2 := Lib.hid h2
  obtain ⟨a1, c1, hv1⟩ := h1.shape
  obtain ⟨a2, c2, hv2⟩ := h2.shape
  obtain ⟨m1, hm1⟩ : ∃ m, m = xs.length := ⟨_, rfl⟩
  obtain ⟨m2, hm2⟩ : ∃ m, m = ys.length := ⟨_, rfl⟩
  rw [← hm1] at hv1
  rw [← hm2] at hv2
  have HM1 := Lib.hid hm1
  have HM2 := Lib.hid hm2
  have hk1 : m1 ≤ 1000 := by omega
  have hk2 : m2 ≤ 1000 := by omega
  by_cases hne : m1 = m2
  · subst hne
    by_cases h0 : m1 = 0
    · subst h0
      have he : xs = ys := by rw [List.eq_nil_of_length_eq_zero hm1.symm, List.eq_nil_of_length_eq_zero hm2.symm]
      have HE := Lib.hid he
      subst hv1 hv2
      clear h1 h2 hm1 hm2 he hl hl2
      go_enter Tryz.func125, Tryz.ntmps125
      go_wp2
      go_ret
      exact ⟨ret_int (by rw [(cmpN_eq _ _).2 HE.out]), dn0 w⟩
    · rcases h1.form with ⟨_, rfl⟩ | ⟨g1, c1', hv1', _, _, hc1, _⟩
      · simp at hm1; omega
      rcases h2.form with ⟨_, rfl⟩ | ⟨g2, c2', hv2', _, _, hc2, _⟩
      · simp at hm2; omega
      rw [← hm1] at hv1'
      rw [← hm2] at hv2'
      rw [hv1'] at hv1 H1 ⊢
      rw [hv2'] at hv2 H2 ⊢
      clear hv1 hv2 hv1' hv2' h1 h2 hm1 hm2 hl hl2
      obtain ⟨k, rfl⟩ : ∃ k, m1 = k + 1 := ⟨m1 - 1, by omega⟩
      have hb0 : (((k + 1 : Nat) : Int) == 0) = false := by rw [beq_eq_false_iff_ne]; omega
      have hs0 : ((k + 1 : Nat) : Int) - 1 = (k : Int) := by omega
      clear h0
      go_enter Tryz.func125, Tryz.ntmps125
      go_wp2_with fail
      go_loopw [7] (fun iv wr => ∃ i : Nat, i ≤ k ∧ iv = .int .i64 (i : Int) ∧ Hid (∀ j (hj : j < xs.length) (hk : j < ys.length), i < j → xs[j]'hj = ys[j]'hk) ∧ Hid (OW wr B1 (.slice (some ⟨g1, 0, none⟩) (k + 1) c1') xs) ∧ Hid (OW wr B2 (.slice (some ⟨g2, 0, none⟩) (k + 1) c2') ys) ∧ ∃ q, wr = w.drewN q)
        (fun iv _ => (intOf iv).toNat)
      case atStart => exact ⟨k, Nat.le_refl _, by go_num, fun j hj hk h => by have := HM1.out; omega, H1.out, H2.out, dn0 w⟩
      case round =>
        obtain ⟨i, hi, rfl, hall, ho1, ho2, hb⟩ := hrel
        have hix : i < xs.length := by rw [← HM1.out]; omega
        have hiy : i < ys.length := by rw [← HM2.out]; omega
        have hc1 := ho1.out.cell i hix
        have hc2 := ho2.out.cell i hiy
        obtain ⟨x, hx⟩ : ∃ x, x = xs[i]'hix := ⟨_, rfl⟩
        obtain ⟨y, hy⟩ : ∃ y, y = ys[i]'hiy := ⟨_, rfl⟩
        rw [← hx] at hc1
        rw [← hy] at hc2
        have HX := Lib.hid hx
        have HY := Lib.hid hy
        have hlt1 : i < c1' := by omega
        have hlt2 : i < c2' := by omega
        clear hx hy
        by_cases hxy : x = y
        · subst hxy
          by_cases hp : 0 < i
          · have hd0 : decide ((0 : Int) < (i : Int)) = true := by simp; omega
            have hd1 : decide (0 < i) = true := by simpa using hp
            obtain ⟨j, rfl⟩ : ∃ j, i = j + 1 := ⟨i - 1, by omega⟩
            have hsub : ((j + 1 : Nat) : Int) - 1 = (j : Int) := by omega
            clear hp
            go_wp2_with fail
            go_quiet (fail)
            go_wp2
            go_roundw
            case rel =>
              refine ⟨j, by omega, by go_num, fun q hq hq2 h => ?_, ho1.out.below (below_dn (Below.refl _ _) _), ho2.out.below (below_dn (Below.refl _ _) _), dn1 hb _⟩
              by_cases e : q = j + 1
              · subst e; rw [← HX.out, ← HY.out]
              · exact hall.out q hq hq2 (by omega)
            case measure => simp [intOf]
          · obtain rfl : i = 0 := by omega
            have hee : xs = ys := eq_of_all HM1.out HM2.out (fun q hq hq2 _ => by
              by_cases e : q = 0
              · subst e; rw [← HX.out, ← HY.out]
              · exact hall.out q hq hq2 (by omega))
            have HEE := Lib.hid hee
            clear hee hp
            go_wp2_with fail
            go_quiet (fail)
            go_wp2_with fail
            go_quiet (fail)
            go_wp2_with fail
            go_quiet (fail)
            go_wp2
            go_ret
            exact ⟨ret_int (by rw [(cmpN_eq _ _).2 HEE.out]), dn1 (dn1 (dn1 hb _) _) _⟩
        · have hb1 : ((x : Int) == (y : Int)) = false := by rw [beq_eq_false_iff_ne]; omega
          have HC := Lib.hid (cmpN_at i hix hiy (by rw [← HM1.out, ← HM2.out]) hall.out HX.out HY.out hxy)
          obtain ⟨b0, hb0'⟩ : ∃ b0, decide ((0 : Int) < (i : Int)) = b0 := ⟨_, rfl⟩
          obtain ⟨b0n, hb0n⟩ : ∃ b0, decide (0 < i) = b0 := ⟨_, rfl⟩
          have hbb : b0n = b0 := by rw [← hb0', ← hb0n]; simp
          subst hbb
          rcases Nat.lt_or_gt_of_ne hxy with hlt | hlt
          · have hd : decide (x < y) = true := by simpa using hlt
            have HLT : Hid ((if x < y then (-1 : Int) else 1) = -1) := by unfold Hid; rw [if_pos hlt]
            clear hlt hxy
            cases b0n
            all_goals
              go_wp2_with fail
              go_quiet (fail)
              go_wp2_with fail
              go_quiet (fail)
              go_wp2
              go_ret
              exact ⟨ret_int (by rw [HC.out, HLT.out]), dn1 (dn1 hb _) _⟩
          · have hd : decide (x < y) = false := by simp; omega
            have hd2 : decide (y < x) = true := by simpa using hlt
            have HLT : Hid ((if x < y then (-1 : Int) else 1) = 1) := by unfold Hid; rw [if_neg (by omega)]
            clear hlt hxy
            cases b0n
            all_goals
              go_wp2_with fail
              go_quiet (fail)
              go_wp2_with fail
              go_quiet (fail)
              go_wp2_with fail
              go_quiet (fail)
              go_wp2
              go_ret
              exact ⟨ret_int (by rw [HC.out, HLT.out]), dn1 (dn1 (dn1 hb _) _) _⟩
  · have hb1 : ((m1 : Int) == (m2 : Int)) = false := by rw [beq_eq_false_iff_ne]; omega
    have hb2 : ((m1 : Int) != (m2 : Int)) = true := by rw [bne_iff_ne]; omega
    subst hv1 hv2
    clear h1 h2 hm1 hm2 hl hl2
    rcases Nat.lt_or_gt_of_ne hne with hlt | hlt
    · have hd : decide (m1 < m2) = true := by simpa using hlt
      have HCN : Hid (cmpN xs ys = -1) := by unfold Hid cmpN; rw [if_pos (by rw [← HM1.out, ← HM2.out]; exact hlt)]
      have hd' : decide ((m1 : Int) < (m2 : Int)) = true := by simpa using hlt
      clear hne
      go_enter Tryz.func125, Tryz.ntmps125
      go_wp2
      go_ret
      exact ⟨ret_int HCN.out.symm, dn0 w⟩
    · have hd : decide (m1 < m2) = false := by simp; omega
      have HCN : Hid (cmpN xs ys = 1) := by unfold Hid cmpN; rw [if_neg (by rw [← HM1.out, ← HM2.out]; omega), if_pos (by rw [← HM1.out, ← HM2.out]; exact hlt)]
      have hd' : decide ((m1 : Int) < (m2 : Int)) = false := by simp; omega
      have hd2 : decide (m2 < m1) = true := by simpa using hlt
      have hd2' : decide ((m2 : Int) < (m1 : Int)) = true := by simpa using hlt
      clear hne
      go_enter Tryz.func125, Tryz.ntmps125
      go_wp2
      go_ret
      exact ⟨ret_int HCN.out.symm, dn0 w⟩
end Go.Proofs.YtmpfffcdpecadaaGreat
