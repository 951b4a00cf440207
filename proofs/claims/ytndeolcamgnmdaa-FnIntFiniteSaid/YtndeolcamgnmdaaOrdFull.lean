/- The reference's order of two magnitudes. -/
import Derived.Test.YtndeolcamgnmdaaOrder
import Derived.Test.YtndeolcamgnmdaaDig
import Derived.Deep.RegionHeld3
import Derived.Deep.DrawnRows
namespace Go.Proofs.Ytndeolcamgnmdaa
open Go.RowKit
attribute [local go_sem ↓] Go.wp_at_zero Go.wp_at_succ
def OrdPost (n : Int) (w : World) (e : Ending) (w' : World) : Prop := e = .returned (.int .i64 (sgn n)) ∧ Below w.heap.size w w'
theorem order_full (B1 B2 g1 c1 g2 c2 m1 m2 : Nat) (xs ys : List Nat) (w : World) (h1 : OB w B1 (.slice (some ⟨g1, 0, none⟩) m1 c1) xs) (h2 : OB w B2 (.slice (some ⟨g2, 0, none⟩) m2 c2) ys) (hhx : xs.head? ≠ some 0) (hhy : ys.head? ≠ some 0) :
    Calls Try.prog 33 #[.slice (some ⟨g1, 0, none⟩) m1 c1, .slice (some ⟨g2, 0, none⟩) m2 c2] w (OrdPost ((natOf xs : Int) - (natOf ys : Int)) w) := by
  have hm1 : m1 = xs.length ∧ m1 ≤ c1 ∧ c1 ≤ maxLen := by obtain ⟨_, _, hv, _, _, h1, h2⟩ := h1.form; injection hv with _ e1 e2; subst e1 e2; exact ⟨rfl, h1, h2⟩
  have hm2 : m2 = ys.length := by obtain ⟨_, _, hv, _, _, h1, h2⟩ := h2.form; injection hv
  obtain ⟨hm1, hmc, hcm⟩ := hm1
  unfold maxLen at hcm
  have HHX := Lib.hid hhx
  have HHY := Lib.hid hhy
  have HBX := Lib.hid h1.2.2
  have HBY := Lib.hid h2.2.2
  have H1 := Lib.hid h1
  have H2 := Lib.hid h2
  have HM1 := Lib.hid hm1
  have HM2 := Lib.hid hm2
  clear h1 h2 hm1 hm2 hhx hhy
  by_cases hne : m1 = m2
  · subst hne
    go_enter Try.func33, Try.ntmps33
    go_wp2_with fail
    go_loopw [5] (fun iv wr => ∃ i : Nat, i ≤ m1 ∧ iv = .int .i64 (i : Int) ∧ Hid (∀ j (hj : j < xs.length) (hk : j < ys.length), j < i → xs[j]'hj = ys[j]'hk) ∧ Hid (OB wr B1 (.slice (some ⟨g1, 0, none⟩) m1 c1) xs) ∧ Hid (OB wr B2 (.slice (some ⟨g2, 0, none⟩) m1 c2) ys) ∧ Below w.heap.size w wr)
      (fun iv _ => ((m1 : Int) - intOf iv).toNat)
    case atStart => exact ⟨0, Nat.zero_le _, rfl, fun j hj hk h => absurd h (Nat.not_lt_zero _), H1.out, H2.out, Below.refl _ _⟩
    case round =>
      obtain ⟨i, hi, rfl, hall, ho1, ho2, hb⟩ := hrel
      by_cases him : i < m1
      · have hix : i < xs.length := by rw [← HM1.out]; exact him
        have hiy : i < ys.length := by rw [← HM2.out]; exact him
        have hc1 := ho1.out.cell i hix
        have hc2 := ho2.out.cell i hiy
        obtain ⟨x, hx⟩ : ∃ x, x = xs[i]'hix := ⟨_, rfl⟩
        obtain ⟨y, hy⟩ : ∃ y, y = ys[i]'hiy := ⟨_, rfl⟩
        rw [← hx] at hc1
        rw [← hy] at hc2
        have HX := Lib.hid hx
        have HY := Lib.hid hy
        have hlt : i < c1 := by omega
        clear hx hy
        by_cases hxy : x = y
        · subst hxy
          go_wp2_with fail
          go_quiet (fail)
          go_wp2
          go_roundw
          case rel =>
            refine ⟨i + 1, by omega, by go_num, fun j hj hk h => ?_, ho1.out.below (below_dn (Below.refl _ _) _), ho2.out.below (below_dn (Below.refl _ _) _), below_dn hb _⟩
            by_cases e : j = i
            · subst e; rw [← HX.out, ← HY.out]
            · exact hall.out j hj hk (by omega)
          case measure => simp [intOf]; omega
        · have hb1 : ((x : Int) == (y : Int)) = false := by rw [beq_eq_false_iff_ne]; omega
          have hb2 : ((x : Int) != (y : Int)) = true := by rw [bne_iff_ne]; omega
          by_cases hlt2 : x < y
          · have hd : decide (x < y) = true := by simpa using hlt2
            have HLT := Lib.hid (natOf_at (xs := xs) (ys := ys) HBX.out (by rw [← HM1.out, ← HM2.out]) i hix hiy hall.out (by rw [← HX.out, ← HY.out]; exact hlt2))
            clear hlt2 hxy
            go_wp2_with fail
            go_quiet (fail)
            go_wp2_with fail
            go_quiet (fail)
            go_wp2
            go_ret
            exact ⟨ret_int (by unfold sgn; rw [if_pos (by have := HLT.out; omega)]), below_dn (below_dn hb _) _⟩
          · have hd : decide (x < y) = false := by simp; omega
            have HLT := Lib.hid (natOf_at (xs := ys) (ys := xs) HBY.out (by rw [← HM1.out, ← HM2.out]) i hiy hix (fun j hj hk h => (hall.out j hk hj h).symm) (by rw [← HX.out, ← HY.out]; omega))
            clear hlt2 hxy
            go_wp2_with fail
            go_quiet (fail)
            go_wp2_with fail
            go_quiet (fail)
            go_wp2
            go_ret
            exact ⟨ret_int (by unfold sgn; rw [if_neg (by have := HLT.out; omega), if_neg (by have := HLT.out; omega)]), below_dn (below_dn hb _) _⟩
      · obtain rfl : i = m1 := by omega
        go_wp2
        go_ret
        exact ⟨ret_int (by rw [eq_of_all HM1.out HM2.out hall.out]; unfold sgn; rw [if_neg (by omega), if_pos (by omega)]), hb⟩
  · have hb1 : ((m1 : Int) == (m2 : Int)) = false := by rw [beq_eq_false_iff_ne]; omega
    by_cases hlt : m1 < m2
    · have hd : decide ((m1 : Int) < (m2 : Int)) = true := by simp; omega
      have HLT := Lib.hid (natOf_shorter (xs := xs) (ys := ys) HBX.out HHY.out (by rw [← HM1.out, ← HM2.out]; exact hlt))
      clear hne
      go_enter Try.func33, Try.ntmps33
      go_wp2
      go_ret
      exact ⟨ret_int (by unfold sgn; rw [if_pos (by have := HLT.out; omega)]), Below.refl _ _⟩
    · have hd : decide ((m1 : Int) < (m2 : Int)) = false := by simp; omega
      have HLT := Lib.hid (natOf_shorter (xs := ys) (ys := xs) HBY.out HHX.out (by rw [← HM1.out, ← HM2.out]; omega))
      clear hne
      go_enter Try.func33, Try.ntmps33
      go_wp2
      go_ret
      exact ⟨ret_int (by unfold sgn; rw [if_neg (by have := HLT.out; omega), if_neg (by have := HLT.out; omega)]), Below.refl _ _⟩
end Go.Proofs.Ytndeolcamgnmdaa
