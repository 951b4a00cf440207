/- The reference's escapes: octal digits, and what begins with a backslash. -/
import Derived.Test.YtghendoiohfolaaGreatDoorUnqDig
import Derived.Deep.QuietTactic
import Derived.BigQuiet
import Derived.Laws.BitsAllLaws
namespace Go.Proofs.YtghendoiohfolaaGreatDoor
set_option linter.unusedSimpArgs false
set_option linter.unusedVariables false
set_option linter.unnecessarySimpa false
open Go.RowKit
/-- Octal digits behind a backslash. -/
def octA (by_ : Bool) (l : List UInt8) : Option (List UInt8 × Nat) :=
  if (octV 3 0 (l.drop 1)).2 = 0 then none else codedP (octV 3 0 (l.drop 1)).1 true by_ (1 + (octV 3 0 (l.drop 1)).2)
theorem octV_step {k acc : Nat} {c : UInt8} {t : List UInt8} (h : 48 ≤ c.toNat ∧ c.toNat ≤ 55) : octV (k + 1) acc (c :: t) = ((octV k (acc * 8 + (c.toNat - 48)) t).1, (octV k (acc * 8 + (c.toNat - 48)) t).2 + 1) := by
  simp [octV, h]
theorem octV_stop {k acc : Nat} {c : UInt8} {t : List UInt8} (h : ¬ (48 ≤ c.toNat ∧ c.toNat ≤ 55)) : octV k acc (c :: t) = (acc, 0) := by
  cases k with
  | zero => rfl
  | succ k => simp only [octV, if_neg h]
theorem octV_nil {k acc : Nat} : octV k acc [] = (acc, 0) := by cases k <;> rfl
theorem octA_end {by_ : Bool} {l : List UInt8} {acc k : Nat} (hk : 1 ≤ k) (h : octV 3 0 (l.drop 1) = (acc, k - 1)) : octA by_ l = if k = 1 then none else codedP acc true by_ k := by
  unfold octA
  rw [h]
  have e : 1 + (k - 1) = k := by omega
  by_cases h1 : k = 1
  · simp [h1]
  · have : k - 1 ≠ 0 := by omega
    simp only [if_neg this, if_neg h1, e]
set_option maxHeartbeats 2000000 in
theorem octal_esc (s : ByteArray) (by_ : Bool) (w : World) (h1 : 1 ≤ s.size) (hs : s.size ≤ 1000000) :
    Calls Tryz.prog 97 #[.string s, .bool by_] w (EscPost (octA by_ s.data.toList) w) := by
  go_enter Tryz.func97, Tryz.ntmps97
  go_wp2_with fail
  go_loop [6, 7] (fun nv iv => ∃ k acc : Nat, 1 ≤ k ∧ k ≤ 4 ∧ k ≤ s.size ∧ acc ≤ 4095 ∧ nv = .int .i64 acc ∧ iv = .int .i64 k ∧ Hid (acc < 8 ^ (k - 1)) ∧ Hid (octV 3 0 (s.data.toList.drop 1) = ((octV (4 - k) acc (s.data.toList.drop k)).1, (octV (4 - k) acc (s.data.toList.drop k)).2 + (k - 1)))) (fun _ iv => 4 - (intOf iv).toNat)
  case atStart => exact ⟨1, 0, by omega, by omega, h1, by omega, rfl, rfl, by simp [Hid], by simp [Hid]⟩
  case round =>
    obtain ⟨k, acc, hk1, hk4, hks, hacc, rfl, rfl, hlt8, hoct⟩ := hrel
    have fin : ∀ W : World, octV 3 0 (s.data.toList.drop 1) = (acc, k - 1) → EscPost (if k = 1 then none else codedP acc true by_ k) w (.returned (.tuple #[.slice none 0 0, .int .i64 0])) W → True := fun _ _ _ => trivial
    clear fin
    have stop : ∀ (_ : octV (4 - k) acc (s.data.toList.drop k) = (acc, 0)), octA by_ s.data.toList = if k = 1 then none else codedP acc true by_ k := by
      intro h
      refine octA_end hk1 ?_
      rw [hoct.out, h]
      simp
    by_cases hgo : k < s.size ∧ k < 4
    · obtain ⟨g1, g2⟩ := hgo
      have hd : s.data.toList.drop k = s[k] :: s.data.toList.drop (k + 1) := drop_cons s k g1
      by_cases hdig : 48 ≤ (s[k]).toNat ∧ (s[k]).toNat ≤ 55
      · have ho := octV_step (k := 3 - k) (acc := acc) (t := s.data.toList.drop (k + 1)) hdig
        have ek : 3 - k + 1 = 4 - k := by omega
        rw [ek, ← hd] at ho
        have hnew : acc * 8 + ((s[k]).toNat - 48) < 8 ^ (k + 1 - 1) := by
          have e : k + 1 - 1 = (k - 1) + 1 := by omega
          rw [e, Nat.pow_succ]
          have := hlt8.out
          omega
        have hN := Lib.hid hnew
        have hO : Hid (octV 3 0 (s.data.toList.drop 1) = ((octV (4 - (k + 1)) (acc * 8 + ((s[k]).toNat - 48)) (s.data.toList.drop (k + 1))).1, (octV (4 - (k + 1)) (acc * 8 + ((s[k]).toNat - 48)) (s.data.toList.drop (k + 1))).2 + (k + 1 - 1))) := by
          unfold Hid
          rw [hoct.out, ho, show 4 - (k + 1) = 3 - k by omega]
          simp only [Prod.mk.injEq, true_and]
          omega
        have hb : acc * 8 + ((s[k]).toNat - 48) ≤ 4095 := by
          have h5 := hlt8.out
          have h6 : 8 ^ (k - 1) ≤ 8 ^ 2 := Nat.pow_le_pow_right (by omega) (by omega)
          omega
        obtain ⟨d1, d2⟩ := hdig
        have d1' : (48 : Int) ≤ ((s[k]).toNat : Int) := by omega
        have d2' : ((s[k]).toNat : Int) ≤ 55 := by omega
        clear hd ho ek hnew stop hoct hlt8
        go_wp2
        go_round
        case rel => exact ⟨k + 1, acc * 8 + ((s[k]).toNat - 48), by omega, by omega, by omega, hb, by go_num, by go_num, hN, hO⟩
        case measure => simp [intOf]; omega
      · have HST := Lib.hid (stop (by rw [hd]; exact octV_stop hdig))
        have dn : decide (48 ≤ ((s[k]).toNat : Int)) = false ∨ (decide (48 ≤ ((s[k]).toNat : Int)) = true ∧ decide (((s[k]).toNat : Int) ≤ 55) = false) := by
          by_cases h5 : 48 ≤ (s[k]).toNat
          · exact .inr ⟨by simp; omega, by simp; omega⟩
          · exact .inl (by simp; omega)
        clear hd stop hoct hdig
        rcases dn with dn | ⟨dn1, dn2⟩
        all_goals
          by_cases hk : k = 1
          · have HK := Lib.hid hk
            have hkb : ((k : Int) == 1) = true := by rw [beq_iff_eq]; omega
            clear hk
            go_wp2
            go_ret2
            exact .inl ⟨by rw [HST.out, if_pos HK.out], rfl, Below.refl _ _⟩
          · have HK := Lib.hid hk
            have hkb : ((k : Int) == 1) = false := by rw [beq_eq_false_iff_ne]; omega
            clear hk
            go_wp2_with fail
            refine (coded_esc acc k true by_ _ (by omega)).mono ?_
            rw [if_neg HK.out] at HST
            rw [← HST.out]
            rintro e w' (⟨ha, rfl, hb⟩ | ⟨p, kk, v, ha, rfl, ho, hb⟩)
            · have HA := Lib.hid ha
              clear ha
              go_wp2
              go_ret2
              exact .inl ⟨HA.out, rfl, hb⟩
            · have HA := Lib.hid ha
              clear ha
              go_wp2
              go_ret2
              exact .inr ⟨p, kk, v, HA.out, rfl, ho, hb⟩
    · have HST := Lib.hid (stop (by
        by_cases h5 : k < s.size
        · have : 4 - k = 0 := by omega
          rw [this]; rfl
        · rw [List.drop_eq_nil_of_le (by simp; omega)]; exact octV_nil))
      have dn : ¬ (k : Int) < (s.size : Int) ∨ ((k : Int) < (s.size : Int) ∧ k = 4) := by omega
      clear stop hoct hgo
      rcases dn with dn | ⟨dn1, rfl⟩
      · by_cases hk : k = 1
        · have HK := Lib.hid hk
          have hkb : ((k : Int) == 1) = true := by rw [beq_iff_eq]; omega
          clear hk
          go_wp2
          go_ret2
          exact .inl ⟨by rw [HST.out, if_pos HK.out], rfl, Below.refl _ _⟩
        · have HK := Lib.hid hk
          have hkb : ((k : Int) == 1) = false := by rw [beq_eq_false_iff_ne]; omega
          clear hk
          go_wp2_with fail
          refine (coded_esc acc k true by_ _ (by omega)).mono ?_
          rw [if_neg HK.out] at HST
          rw [← HST.out]
          rintro e w' (⟨ha, rfl, hb⟩ | ⟨p, kk, v, ha, rfl, ho, hb⟩)
          · have HA := Lib.hid ha
            clear ha
            go_wp2
            go_ret2
            exact .inl ⟨HA.out, rfl, hb⟩
          · have HA := Lib.hid ha
            clear ha
            go_wp2
            go_ret2
            exact .inr ⟨p, kk, v, HA.out, rfl, ho, hb⟩
      · go_wp2_with fail
        refine (coded_esc acc 4 true by_ _ (by omega)).mono ?_
        rw [if_neg (by omega)] at HST
        rw [← HST.out]
        rintro e w' (⟨ha, rfl, hb⟩ | ⟨p, kk, v, ha, rfl, ho, hb⟩)
        · have HA := Lib.hid ha
          clear ha
          go_wp2
          go_ret2
          exact .inl ⟨HA.out, rfl, hb⟩
        · have HA := Lib.hid ha
          clear ha
          go_wp2
          go_ret2
          exact .inr ⟨p, kk, v, HA.out, rfl, ho, hb⟩
end Go.Proofs.YtghendoiohfolaaGreatDoor
