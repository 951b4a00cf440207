/- Joined texts: NatCmp, OrdFull. -/
import Derived.Test.YteibkaonofkcbaaGreatTupJoinH
import Derived.Test.YteibkaonofkcbaaGreatOrder
import Derived.Test.YteibkaonofkcbaaGreatTupJoinA
import Derived.Deep.RegionHeld3
import Derived.Deep.DrawnRows
set_option linter.unusedSimpArgs false
set_option linter.unusedVariables false
namespace Go.Proofs.YteibkaonofkcbaaGreat
open Go.RowKit
/-- The words from the lowest on: the highest that differs decides. -/
def cmpRev : List Nat → List Nat → Int
  | x :: r, y :: t => if cmpRev r t = 0 then (if x < y then -1 else if y < x then 1 else 0) else cmpRev r t
  | _, _ => 0
def cmpN (xs ys : List Nat) : Int := if xs.length < ys.length then -1 else if ys.length < xs.length then 1 else cmpRev xs ys
theorem cmpRev_self : ∀ xs, cmpRev xs xs = 0
  | [] => rfl
  | x :: r => by simp [cmpRev, cmpRev_self r]
theorem cmpRev_eq : ∀ {xs ys : List Nat}, xs.length = ys.length → cmpRev xs ys = 0 → xs = ys
  | [], [], _, _ => rfl
  | [], _ :: _, h, _ => by simp at h
  | _ :: _, [], h, _ => by simp at h
  | x :: r, y :: t, h, e => by
    have hl : r.length = t.length := by simpa using h
    simp only [cmpRev] at e
    by_cases h0 : cmpRev r t = 0
    · rw [if_pos h0] at e
      have := cmpRev_eq hl h0
      subst this
      by_cases h1 : x < y
      · rw [if_pos h1] at e; simp at e
      · by_cases h2 : y < x
        · rw [if_neg h1, if_pos h2] at e; simp at e
        · rw [show x = y by omega]
    · rw [if_neg h0] at e
      exact absurd e h0
theorem cmpRev_bound : ∀ xs ys, -1 ≤ cmpRev xs ys ∧ cmpRev xs ys ≤ 1
  | [], _ => by simp [cmpRev]
  | _ :: _, [] => by simp [cmpRev]
  | x :: r, y :: t => by
    have := cmpRev_bound r t
    simp only [cmpRev]
    split
    · split
      · omega
      · split <;> omega
    · exact this
theorem cmpRev_at : ∀ {xs ys : List Nat} (i : Nat) (h1 : i < xs.length) (h2 : i < ys.length), xs.length = ys.length → (∀ j (hj : j < xs.length) (hk : j < ys.length), i < j → xs[j]'hj = ys[j]'hk) → ¬ xs[i]'h1 = ys[i]'h2 → cmpRev xs ys = if xs[i]'h1 < ys[i]'h2 then -1 else 1
  | [], _, i, h1, _, _, _, _ => by simp at h1
  | _ :: _, [], i, _, h2, _, _, _ => by simp at h2
  | x :: r, y :: t, 0, h1, h2, hl, ha, hne => by
    have hl' : r.length = t.length := by simpa using hl
    have hrt : r = t := List.ext_getElem hl' fun i hi hk => by
      have := ha (i + 1) (by simp; omega) (by simp; omega) (by omega)
      simpa using this
    subst hrt
    simp only [cmpRev, cmpRev_self, List.getElem_cons_zero] at *
    simp only [if_true]
    by_cases h : x < y
    · rw [if_pos h, if_pos h]
    · rw [if_neg h, if_neg h, if_pos (by omega)]
  | x :: r, y :: t, i + 1, h1, h2, hl, ha, hne => by
    have hl' : r.length = t.length := by simpa using hl
    have ih := cmpRev_at (xs := r) (ys := t) i (by simpa using h1) (by simpa using h2) hl' (fun j hj hk hij => by
      have := ha (j + 1) (by simp; omega) (by simp; omega) (by omega)
      simpa using this) (by simpa using hne)
    have hn0 : ¬ cmpRev r t = 0 := by rw [ih]; split <;> simp
    simp only [cmpRev, if_neg hn0, List.getElem_cons_succ]
    exact ih
theorem cmpN_bound (xs ys : List Nat) : -1 ≤ cmpN xs ys ∧ cmpN xs ys ≤ 1 := by
  have := cmpRev_bound xs ys
  unfold cmpN
  split
  · omega
  · split <;> omega
theorem cmpN_eq (xs ys : List Nat) : cmpN xs ys = 0 ↔ xs = ys := by
  refine ⟨fun e => ?_, fun e => by subst e; simp [cmpN, cmpRev_self]⟩
  unfold cmpN at e
  by_cases h1 : xs.length < ys.length
  · rw [if_pos h1] at e; simp at e
  · by_cases h2 : ys.length < xs.length
    · rw [if_neg h1, if_pos h2] at e; simp at e
    · rw [if_neg h1, if_neg h2] at e
      exact cmpRev_eq (by omega) e
theorem cmpN_at {xs ys : List Nat} (i : Nat) (h1 : i < xs.length) (h2 : i < ys.length) (hl : xs.length = ys.length) (ha : ∀ j (hj : j < xs.length) (hk : j < ys.length), i < j → xs[j]'hj = ys[j]'hk) {x y : Nat} (hx : x = xs[i]'h1) (hy : y = ys[i]'h2) (hne : ¬ x = y) : cmpN xs ys = if x < y then -1 else 1 := by
  subst hx hy
  unfold cmpN
  rw [if_neg (by omega), if_neg (by omega)]
  exact cmpRev_at i h1 h2 hl ha hne
def CmpPost (r : Int) (w : World) (e : Ending) (w' : World) : Prop := e = .returned (.int .i64 r) ∧ ∃ q, w' = w.drewN q
theorem dn0 (w : World) : ∃ q, w = w.drewN q := ⟨0, rfl⟩
theorem dn1 {w w1 : World} (h : ∃ q, w1 = w.drewN q) (n : Nat) : ∃ q, w1.drewN n = w.drewN q := by
  obtain ⟨q, rfl⟩ := h
  exact ⟨q + n, World.drewN_drewN _ _ _⟩
end Go.Proofs.YteibkaonofkcbaaGreat
namespace Go.Proofs.YteibkaonofkcbaaGreat
open Go.RowKit
attribute [local go_sem ↓] Go.wp_at_zero Go.wp_at_succ
def OrdPost (n : Int) (w : World) (e : Ending) (w' : World) : Prop := e = .returned (.int .i64 (sgn n)) ∧ Below w.heap.size w w'
theorem order_full (B1 B2 g1 c1 g2 c2 m1 m2 : Nat) (xs ys : List Nat) (w : World) (h1 : OB w B1 (.slice (some ⟨g1, 0, none⟩) m1 c1) xs) (h2 : OB w B2 (.slice (some ⟨g2, 0, none⟩) m2 c2) ys) (hhx : xs.head? ≠ some 0) (hhy : ys.head? ≠ some 0) :
    Calls Tryz.prog 58 #[.slice (some ⟨g1, 0, none⟩) m1 c1, .slice (some ⟨g2, 0, none⟩) m2 c2] w (OrdPost ((natOf xs : Int) - (natOf ys : Int)) w) := by
  have hm1 : m1 = xs.length ∧ m1 ≤ c1 ∧ c1 ≤ maxLen := by obtain ⟨_, _, hv, _, _, h1, h2⟩ := h1.form; injection hv with _ e1 e2; subst e1 e2; exact ⟨rfl, h1, h2⟩
  have hm2 : m2 = ys.length := by obtain ⟨_, _, hv, _, _, h1, h2⟩ := h2.form; injection hv
  obtain ⟨hm1, hmc, hcm⟩ := hm1
  unfold maxLen at hcm
  have HHX := Lib.hid hhx
  have HHY := Lib.hid hhy
  have HBX := Lib.hid h1.2.2
  have HBY := Lib.hid h2.2.2
  have H1 := Lib.hid h1
  have H2 := Lib.hid h2
  have HM1 := Lib.hid hm1
  have HM2 := Lib.hid hm2
  clear h1 h2 hm1 hm2 hhx hhy
  by_cases hne : m1 = m2
  · subst hne
    go_enter Tryz.func58, Tryz.ntmps58
    go_wp2_with fail
    go_loopw [5] (fun iv wr => ∃ i : Nat, i ≤ m1 ∧ iv = .int .i64 (i : Int) ∧ Hid (∀ j (hj : j < xs.length) (hk : j < ys.length), j < i → xs[j]'hj = ys[j]'hk) ∧ Hid (OB wr B1 (.slice (some ⟨g1, 0, none⟩) m1 c1) xs) ∧ Hid (OB wr B2 (.slice (some ⟨g2, 0, none⟩) m1 c2) ys) ∧ Below w.heap.size w wr)
      (fun iv _ => ((m1 : Int) - intOf iv).toNat)
    case atStart => exact ⟨0, Nat.zero_le _, rfl, fun j hj hk h => absurd h (Nat.not_lt_zero _), H1.out, H2.out, Below.refl _ _⟩
    case round =>
      obtain ⟨i, hi, rfl, hall, ho1, ho2, hb⟩ := hrel
      by_cases him : i < m1
      · have hix : i < xs.length := by rw [← HM1.out]; exact him
        have hiy : i < ys.length := by rw [← HM2.out]; exact him
        have hc1 := ho1.out.cell i hix
        have hc2 := ho2.out.cell i hiy
        obtain ⟨x, hx⟩ : ∃ x, x = xs[i]'hix := ⟨_, rfl⟩
        obtain ⟨y, hy⟩ : ∃ y, y = ys[i]'hiy := ⟨_, rfl⟩
        rw [← hx] at hc1
        rw [← hy] at hc2
        have HX := Lib.hid hx
        have HY := Lib.hid hy
        have hlt : i < c1 := by omega
        clear hx hy
        by_cases hxy : x = y
        · subst hxy
          go_wp2_with fail
          go_quiet (fail)
          go_wp2
          go_roundw
          case rel =>
            refine ⟨i + 1, by omega, by go_num, fun j hj hk h => ?_, ho1.out.below (below_dn (Below.refl _ _) _), ho2.out.below (below_dn (Below.refl _ _) _), below_dn hb _⟩
            by_cases e : j = i
            · subst e; rw [← HX.out, ← HY.out]
            · exact hall.out j hj hk (by omega)
          case measure => simp [intOf]; omega
        · have hb1 : ((x : Int) == (y : Int)) = false := by rw [beq_eq_false_iff_ne]; omega
          have hb2 : ((x : Int) != (y : Int)) = true := by rw [bne_iff_ne]; omega
          by_cases hlt2 : x < y
          · have hd : decide (x < y) = true := by simpa using hlt2
            have HLT := Lib.hid (natOf_at (xs := xs) (ys := ys) HBX.out (by rw [← HM1.out, ← HM2.out]) i hix hiy hall.out (by rw [← HX.out, ← HY.out]; exact hlt2))
            clear hlt2 hxy
            go_wp2_with fail
            go_quiet (fail)
            go_wp2_with fail
            go_quiet (fail)
            go_wp2
            go_ret
            exact ⟨ret_int (by unfold sgn; rw [if_pos (by have := HLT.out; omega)]), below_dn (below_dn hb _) _⟩
          · have hd : decide (x < y) = false := by simp; omega
            have HLT := Lib.hid (natOf_at (xs := ys) (ys := xs) HBY.out (by rw [← HM1.out, ← HM2.out]) i hiy hix (fun j hj hk h => (hall.out j hk hj h).symm) (by rw [← HX.out, ← HY.out]; omega))
            clear hlt2 hxy
            go_wp2_with fail
            go_quiet (fail)
            go_wp2_with fail
            go_quiet (fail)
            go_wp2
            go_ret
            exact ⟨ret_int (by unfold sgn; rw [if_neg (by have := HLT.out; omega), if_neg (by have := HLT.out; omega)]), below_dn (below_dn hb _) _⟩
      · obtain rfl : i = m1 := by omega
        go_wp2
        go_ret
        exact ⟨ret_int (by rw [eq_of_all HM1.out HM2.out hall.out]; unfold sgn; rw [if_neg (by omega), if_pos (by omega)]), hb⟩
  · have hb1 : ((m1 : Int) == (m2 : Int)) = false := by rw [beq_eq_false_iff_ne]; omega
    by_cases hlt : m1 < m2
    · have hd : decide ((m1 : Int) < (m2 : Int)) = true := by simp; omega
      have HLT := Lib.hid (natOf_shorter (xs := xs) (ys := ys) HBX.out HHY.out (by rw [← HM1.out, ← HM2.out]; exact hlt))
      clear hne
      go_enter Tryz.func58, Tryz.ntmps58
      go_wp2
      go_ret
      exact ⟨ret_int (by unfold sgn; rw [if_pos (by have := HLT.out; omega)]), Below.refl _ _⟩
    · have hd : decide ((m1 : Int) < (m2 : Int)) = false := by simp; omega
      have HLT := Lib.hid (natOf_shorter (xs := ys) (ys := xs) HBY.out HHX.out (by rw [← HM1.out, ← HM2.out]; omega))
      clear hne
      go_enter Tryz.func58, Tryz.ntmps58
      go_wp2
      go_ret
      exact ⟨ret_int (by unfold sgn; rw [if_neg (by have := HLT.out; omega), if_neg (by have := HLT.out; omega)]), Below.refl _ _⟩
end Go.Proofs.YteibkaonofkcbaaGreat
