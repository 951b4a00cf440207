/- The walk of laws.FnDigits: a text of digits is their number. -/
import Derived.Test.YtgajgjjcnahebaaRows
import Derived.Test.YtgajgjjcnahebaaPlain
import Derived.WalkSpells
import Derived.WalkLawsBesides
import Derived.Deep.DeepCutAuto
namespace Go.Proofs.Ytgajgjjcnahebaa
open Go.RowKit

set_option maxHeartbeats 400000 in
theorem decimal_yes (t : ByteArray) (ht : t.size ≤ 18) (ha : allD t.data.toList = true) (w : World) :
    Calls Try.prog 26 #[.string t] w fun e w' => e = .returned (.tuple #[.int .i64 (digw t.data.toList), .bool true]) ∧ w = w' := by
  have HA : ∀ k, k ≤ t.size → allD (t.data.toList.take k) = true := fun k _ => by
    rw [allD, List.all_eq_true] at *
    exact fun c hc => ha c (List.mem_of_mem_take hc)
  have hB := fun k hk => digw_bound t k hk (Nat.le_trans hk ht) (HA k hk)
  have hS := fun k hk => digw_snoc t k hk
  have hD : ∀ (k : Nat) (hk : k < t.size), isDig t[k] = true := fun k hk => by
    have h1 := HA (k + 1) hk
    rw [allD_snoc t k hk, HA k (by omega)] at h1
    simpa using h1
  have HB := Lib.hid hB
  have HS := Lib.hid hS
  have HD := Lib.hid hD
  clear hB hS hD ha HA
  go_enter Try.func26, Try.ntmps26
  go_wp2
  go_loop [2, 10] (fun n i => ∃ k : Nat, k ≤ t.size ∧ i = .int .i64 k ∧ n = .int .i64 (digw (t.data.toList.take k))) (fun _ i => t.size - (intOf i).toNat)
  case atStart => exact ⟨0, Nat.zero_le _, rfl, rfl⟩
  case round =>
    obtain ⟨k, hk, rfl, rfl⟩ := hrel
    by_cases hlt : k < t.size
    · obtain ⟨d1, d2⟩ := dig_range (HD.out k hlt)
      have h1 : ¬ (9 : Int) < ((t[k].toNat : Int) - 48) % 256 := by omega
      have h2 : ¬ wrap64 (wrap64 (digw (t.data.toList.take k) * 10) + (((t[k].toNat : Int) - 48) % 256)) < 0 := by
        rw [← HS.out k hlt]
        have := (HB.out (k + 1) hlt).1
        omega
      have hs := HS.out k hlt
      have Hs := Lib.hid hs
      clear hs d1 d2
      generalize digw (t.data.toList.take k) = n at *
      go_wp2
      go_round
      case rel => exact ⟨k + 1, by omega, by go_num, by rw [Hs.out]⟩
      case measure => simp [intOf]; omega
    · have hL := take_all t k (by omega)
      have HL := Lib.hid hL
      clear hL
      go_wp2
      go_ret2
      exact ⟨by rw [HL.out]; rfl, rfl⟩

set_option maxHeartbeats 400000 in
theorem decimal_no (t : ByteArray) (ht : t.size ≤ 18) (ha : allD t.data.toList = false) (w : World) :
    Calls Try.prog 26 #[.string t] w fun e w' => e = .returned (.tuple #[.int .i64 0, .bool false]) ∧ w = w' := by
  have hS := fun k hk => digw_snoc t k hk
  have hA := fun k hk => allD_snoc t k hk
  have hB := fun k hk hd => digw_bound t k hk (Nat.le_trans hk ht) hd
  have hL : t.data.toList.take t.size = t.data.toList := take_all t _ (Nat.le_refl _)
  have HB := Lib.hid hB
  have HS := Lib.hid hS
  have HA := Lib.hid hA
  have HL := Lib.hid hL
  have Ha := Lib.hid ha
  clear hB hS hA hL ha
  go_enter Try.func26, Try.ntmps26
  go_wp2
  go_loop [2, 10] (fun n i => ∃ k : Nat, k ≤ t.size ∧ i = .int .i64 k ∧ Hid (allD (t.data.toList.take k) = true) ∧ n = .int .i64 (digw (t.data.toList.take k))) (fun _ i => t.size - (intOf i).toNat)
  case atStart => exact ⟨0, Nat.zero_le _, rfl, rfl, rfl⟩
  case round =>
    obtain ⟨k, hk, rfl, hd, rfl⟩ := hrel
    by_cases hlt : k < t.size
    · cases hc : isDig t[k] with
      | true =>
        obtain ⟨d1, d2⟩ := dig_range hc
        have hd1 : allD (t.data.toList.take (k + 1)) = true := by rw [HA.out k hlt, hd.out, hc]; rfl
        have h1 : ¬ (9 : Int) < ((t[k].toNat : Int) - 48) % 256 := by omega
        have h2 : ¬ wrap64 (wrap64 (digw (t.data.toList.take k) * 10) + (((t[k].toNat : Int) - 48) % 256)) < 0 := by
          rw [← HS.out k hlt]
          have := (HB.out (k + 1) hlt hd1).1
          omega
        have hs := HS.out k hlt
        have Hs := Lib.hid hs
        have Hd1 := Lib.hid hd1
        clear hs d1 d2 hc hd1
        generalize digw (t.data.toList.take k) = n at *
        go_wp2
        go_round
        case rel => exact ⟨k + 1, by omega, by go_num, Hd1, by rw [Hs.out]⟩
        case measure => simp [intOf]; omega
      | false =>
        have h1 := dig_not hc
        clear hc
        go_wp2
        go_ret2
        exact ⟨rfl, rfl⟩
    · obtain rfl : k = t.size := by omega
      exfalso
      have h1 := hd.out
      rw [HL.out, Ha.out] at h1
      cases h1

/-- The package's door and the thin package's. -/
theorem impl_digits {t : ByteArray} {v : Value} (h : ∀ w, Calls Try.prog 26 #[.string t] w fun e w' => e = .returned v ∧ w = w') (n : Int) (b : Bool) (hv : v = .tuple #[.int .i64 n, .bool b]) (w : World) :
    Calls Try.prog 9 #[.string t] w fun e w' => e = .returned (.tuple #[.int .i64 n, .bool b]) ∧ w = w' := by
  subst hv
  have H := Lib.hid h
  clear h
  go_enter Try.func9, Try.ntmps9
  go_wp2_with (first | (go_at_call 18; go_in) | (go_at_call 26; refine (H.out _).mono ?_; rintro e w' ⟨rfl, rfl⟩))
  go_ret2
  exact ⟨rfl, rfl⟩
theorem digits_yes (t : ByteArray) (ht : t.size ≤ 18) (ha : allD t.data.toList = true) (w : World) :
    Calls Try.prog 9 #[.string t] w fun e w' => e = .returned (.tuple #[.int .i64 (digw t.data.toList), .bool true]) ∧ w = w' :=
  impl_digits (decimal_yes t ht ha) _ _ rfl w
theorem digits_no (t : ByteArray) (ht : t.size ≤ 18) (ha : allD t.data.toList = false) (w : World) :
    Calls Try.prog 9 #[.string t] w fun e w' => e = .returned (.tuple #[.int .i64 0, .bool false]) ∧ w = w' :=
  impl_digits (decimal_no t ht ha) _ _ rfl w
theorem digits_five (w : World) :
    Calls Try.prog 9 #[.string ⟨#[53]⟩] w fun e w' => e = .returned (.tuple #[.int .i64 5, .bool true]) ∧ w = w' :=
  impl_digits (decimal_yes ⟨#[53]⟩ (by decide) (by decide)) _ _ (by rw [show digw (ByteArray.mk #[53]).data.toList = 5 from by decide +kernel]) w

set_option maxHeartbeats 1000000 in
theorem digits_law (s : ByteArray) (hs : s.size ≤ maxLen) (w : World) :
    Calls Try.prog 4 #[.string s] w fun e w' => e = .returned (.bool true) ∧ w = w' := by
  unfold maxLen at hs
  by_cases h : 2147483647 < s.size
  · go_enter Try.func4, Try.ntmps4
    go_wp2
    go_ret
    exact ⟨rfl, rfl⟩
  · go_enter Try.func4, Try.ntmps4
    go_upto_region 3 with fail
    go_cut [0] (fun s0 wx => ∃ t : ByteArray, s0 = .string t ∧ t.size ≤ 18 ∧ w = wx)
    case first =>
      by_cases h2 : 18 < s.size
      · go_wp2
        go_meet
        exact ⟨_, rfl, by simp; omega, rfl⟩
      · go_wp2
        go_meet
        exact ⟨_, rfl, by omega, rfl⟩
    case rest =>
      obtain ⟨t, rfl, ht2, rfl⟩ := hcut
      go_upto_if 19 with fail
      go_cut [0] (fun s0 wx => ∃ t : ByteArray, s0 = .string t ∧ 1 ≤ t.size ∧ t.size ≤ 18 ∧ w = wx)
      case first =>
        go_wp2
        · go_meet
          exact ⟨_, rfl, by decide, by decide, rfl⟩
        · have he : t.toList.isEmpty = false := by assumption
          have hp := emp_pos he
          go_meet
          exact ⟨_, rfl, hp, ht2, rfl⟩
      case rest =>
        obtain ⟨t, rfl, ht1, ht2, rfl⟩ := hcut
        clear h hs
        go_wp2
        go_loop [3, 4, 5] (fun n f i => ∃ k : Nat, k ≤ t.size ∧ i = .int .i64 k ∧ f = .bool (allD (t.data.toList.take k)) ∧ n = .int .i64 (digw (t.data.toList.take k))) (fun _ _ i => t.size - (intOf i).toNat)
        case atStart => exact ⟨0, Nat.zero_le _, rfl, rfl, rfl⟩
        case round =>
          obtain ⟨k, hk, rfl, rfl, rfl⟩ := hrel
          by_cases hlt : k < t.size
          · have hA := allD_snoc t k hlt
            have hS := digw_snoc t k hlt
            have HA := Lib.hid hA
            have HS := Lib.hid hS
            clear hA hS
            generalize allD (t.data.toList.take k) = b at *
            generalize digw (t.data.toList.take k) = n at *
            cases b
            · go_wp2
              go_round
              case rel => exact ⟨k + 1, by omega, by go_num, by rw [HA.out]; rfl, by rw [HS.out]⟩
              case measure => simp [intOf]; omega
            · by_cases h48 : (48 : Int) ≤ t[k].toNat
              · cases h57 : isDig t[k]
                · have h58 := dig_no h57 h48
                  rw [h57] at HA
                  clear h57
                  go_wp2
                  go_round
                  case rel => exact ⟨k + 1, by omega, by go_num, by rw [HA.out]; rfl, by rw [HS.out]⟩
                  case measure => simp [intOf]; omega
                · have h58 := (dig_range h57).2
                  rw [h57] at HA
                  clear h57
                  go_wp2
                  go_round
                  case rel => exact ⟨k + 1, by omega, by go_num, by rw [HA.out]; rfl, by rw [HS.out, Int.emod_eq_of_lt (by omega) (by omega)]⟩
                  case measure => simp [intOf]; omega
              · have h57 : isDig t[k] = false := by simp [isDig, h48]
                rw [h57] at HA
                clear h57
                go_wp2
                go_round
                case rel => exact ⟨k + 1, by omega, by go_num, by rw [HA.out]; rfl, by rw [HS.out]⟩
                case measure => simp [intOf]; omega
          · rw [take_all t k (by omega)]
            cases ha : allD t.data.toList
            · have Ha := Lib.hid ha
              clear ha
              go_wp2_with fail
              refine (digits_no t ht2 Ha.out _).mono ?_
              rintro e w' ⟨rfl, rfl⟩
              go_wp2_with fail
              refine (digits_five _).mono ?_
              rintro e w' ⟨rfl, rfl⟩
              go_wp2
              go_ret
              exact ⟨rfl, rfl⟩
            · have Ha := Lib.hid ha
              clear ha
              go_wp2_with fail
              refine (digits_yes t ht2 Ha.out _).mono ?_
              rintro e w' ⟨rfl, rfl⟩
              go_wp2_with fail
              refine (digits_five _).mono ?_
              rintro e w' ⟨rfl, rfl⟩
              go_wp2
              go_ret
              exact ⟨rfl, rfl⟩
theorem digits_below (s : ByteArray) (w : World) (hs : s.size ≤ maxLen) :
    Calls Try.prog 4 #[.string s] w fun e w' => e = .returned (.bool true) ∧ Below w.heap.size w w' :=
  (digits_law s hs w).mono fun _ _ ⟨he, hw⟩ => ⟨he, hw ▸ Below.refl _ _⟩
end Go.Proofs.Ytgajgjjcnahebaa
