/- strconv.ParseUint at base 16, of one to eight signs. -/
import Derived.Test.YtghendoiohfolaaGreatDoorShelfU
import Derived.Test.YtghendoiohfolaaGreatDoorUnqEsc
import Derived.Lib.AtoiAllMem
import Derived.Lib.ConvBytes
import Derived.Lib.AtoiErrMem
import Derived.BigCall
import Derived.BigGuard
namespace Go.Proofs.YtghendoiohfolaaGreatDoor
set_option linter.unusedSimpArgs false
set_option linter.unusedVariables false
set_option linter.unnecessarySimpa false
open Go.RowKit
theorem hexD_dig {c : UInt8} (h : 48 ≤ c.toNat ∧ c.toNat ≤ 57) : hexD c = some (c.toNat - 48) := by simp [hexD, h]
theorem hexD_let {c : UInt8} (h0 : ¬ (48 ≤ c.toNat ∧ c.toNat ≤ 57)) (h : 97 ≤ (c ||| 32).toNat ∧ (c ||| 32).toNat ≤ 102) : hexD c = some ((c ||| 32).toNat - 87) := by
  unfold hexD
  rw [if_neg h0, if_pos h]
theorem hexD_no {c : UInt8} (h0 : ¬ (48 ≤ c.toNat ∧ c.toNat ≤ 57)) (h : ¬ (97 ≤ (c ||| 32).toNat ∧ (c ||| 32).toNat ≤ 102)) : hexD c = none := by
  unfold hexD
  rw [if_neg h0, if_neg h]
theorem lower_any (c : Int) (w : World) : Calls Tryz.prog 78 #[.int .u8 c] w fun e w' => e = .returned (.int .u8 (bits .or .u8 c 32)) ∧ w = w' := by
  go_enter Tryz.func78, Tryz.ntmps78
  go_wp2
  go_ret
  exact ⟨rfl, rfl⟩
def HexPostI (t : ByteArray) (w : World) (e : Ending) (w' : World) : Prop :=
  Below w.heap.size w w' ∧ ((∃ n : Nat, hexV 0 t.data.toList = some n ∧ n < 4294967296 ∧ e = .returned (.tuple #[.int .u64 n, .nilIface])) ∨ (hexV 0 t.data.toList = none ∧ e = .returned (.tuple #[.int .u64 0, .iface 116 (.int .i64 2)])))
def HexI (t : ByteArray) (vu vn vi : Value) : Prop :=
  ∃ (k acc : Nat) (a : Int), vu = .bool false ∧ vn = .int .u64 a ∧ vi = .int .i64 k ∧ k ≤ t.size ∧ Hid (a = (acc : Int) ∧ acc < 16 ^ k ∧ hexV 0 t.data.toList = hexV acc (t.data.toList.drop k))
set_option maxHeartbeats 32000000 in
set_option maxRecDepth 100000 in
theorem parse_hex_in (t : ByteArray) (h1 : 1 ≤ t.size) (h8 : t.size ≤ 8) (w : World) :
    Calls Tryz.prog 55 #[.string t, .int .i64 16, .int .i64 0] w (HexPostI t w) := by
  have hemp := emp_false (s := t) (by omega)
  have hcv := Lib.run_convert_string_bytes (P := Tryz.prog) w 9 24 5 t (u := .string) Tryz.underlying9 Tryz.underlying24 Tryz.underlying5
  have hB : Hid (∀ j, j < t.size → (Lib.bytesWorld w 5 t).cell? ⟨w.heap.size, j, none⟩ = some (.int .u8 (t.data.toList.getD j 0).toNat)) := fun j hj => Lib.bytesWorld_cell w 5 t j hj
  have hbw : Hid (Below w.heap.size w (Lib.bytesWorld w 5 t)) := Lib.bytesWorld_below w _ t
  obtain ⟨W1, hW1⟩ : ∃ W1, W1 = Lib.bytesWorld w 5 t := ⟨_, rfl⟩
  rw [← hW1] at hcv hB hbw
  clear hW1
  have hmv : IntKind.u64.wrap (IntKind.u64.wrap 18446744073709551616 - 1) = 18446744073709551615 := by
    rw [IntKind.wrap_u64, IntKind.wrap_u64]
    decide
  go_enter Tryz.func55, Tryz.ntmps55
  go_wp2
  clear hcv hmv
  go_loop [12, 13, 101] (fun vu vn vi => HexI t vu vn vi) (fun _ _ vi => t.size - (intOf vi).toNat)
  case atStart => exact ⟨0, 0, 0, rfl, rfl, rfl, Nat.zero_le _, rfl, by omega, rfl⟩
  case round =>
    obtain ⟨k, acc, a, rfl, rfl, rfl, hk, hh⟩ := hrel
    have ha := hh.out.1
    have hacc := hh.out.2.1
    have h16 : (16 : Nat) ^ k ≤ 16 ^ 8 := Nat.pow_le_pow_right (by omega) (by omega)
    have h168 : (16 : Nat) ^ 8 = 4294967296 := by decide
    have a0 : 0 ≤ a := by omega
    have a1 : a < 4294967296 := by omega
    by_cases hkn : k < t.size
    · have h17 : (16 : Nat) ^ k ≤ 16 ^ 7 := Nat.pow_le_pow_right (by omega) (by omega)
      have h178 : (16 : Nat) ^ 7 = 268435456 := by decide
      have a2 : a < 268435456 := by omega
      obtain ⟨c, hcd⟩ : ∃ c : UInt8, c = t[k] := ⟨_, rfl⟩
      have hdrop := drop_cons t k hkn
      rw [← hcd] at hdrop
      have hc : W1.cell? ⟨w.heap.size, k, none⟩ = some (.int .u8 (c.toNat : Int)) := by
        rw [hB.out k hkn]
        have : t.data.toList.getD k 0 = c := by rw [hcd]; exact pk_at (l := t.data.toList) (i := k) (by simpa using hkn)
        rw [this]
      have hkb1 : (k : Int) < (t.size : Int) := by omega
      have hkb0 : (0 : Int) ≤ (k : Int) := by omega
      have hc256 : c.toNat < 256 := c.toNat_lt
      have HDR := Lib.hid hdrop
      have hpow : (16 : Nat) ^ (k + 1) = 16 ^ k * 16 := Nat.pow_succ ..
      clear hcd hdrop
      obtain ⟨z, hz⟩ : ∃ z : Int, z = bits .or .u8 (c.toNat : Int) 32 := ⟨_, rfl⟩
      have HZ := Lib.hid (hz.trans (or32 c))
      have hzz := hz.symm
      have hz256 : (c ||| 32).toNat < 256 := (c ||| 32).toNat_lt
      clear hz
      by_cases hdig : 48 ≤ c.toNat ∧ c.toNat ≤ 57
      · obtain ⟨hd0, hd1⟩ := hdig
        have c95 : ((c.toNat : Int) == 95) = false := by rw [beq_eq_false_iff_ne]; omega
        have HN : Hid (a * 16 + ((c.toNat : Int) - 48) = ((acc * 16 + (c.toNat - 48) : Nat) : Int) ∧ acc * 16 + (c.toNat - 48) < 16 ^ (k + 1) ∧ hexV 0 t.data.toList = hexV (acc * 16 + (c.toNat - 48)) (t.data.toList.drop (k + 1))) := by
          refine ⟨by omega, by omega, ?_⟩
          rw [hh.out.2.2, HDR.out, hexV_some (hexD_dig ⟨hd0, hd1⟩)]
        have i48 : (48 : Int) ≤ (c.toNat : Int) := by omega
        have i57 : (c.toNat : Int) ≤ 57 := by omega
        clear hh ha hacc h16 h168 h17 h178 hpow hzz hc256 hz256 hd0 hd1
        go_wp2
        go_round
        case rel => exact ⟨k + 1, acc * 16 + (c.toNat - 48), a * 16 + ((c.toNat : Int) - 48), rfl, by first | rfl | (congr 1; omega), by go_num, by omega, HN⟩
        case measure => simp [intOf]; omega
      · have nd : decide ((48 : Int) ≤ (c.toNat : Int)) = false ∨ (decide ((48 : Int) ≤ (c.toNat : Int)) = true ∧ decide ((c.toNat : Int) ≤ 57) = false) := by
          by_cases h5 : 48 ≤ c.toNat
          · exact .inr ⟨by simp; omega, by simp; omega⟩
          · exact .inl (by simp; omega)
        by_cases hlet : 97 ≤ (c ||| 32).toNat ∧ (c ||| 32).toNat ≤ 102
        · have c95 : ((c.toNat : Int) == 95) = false := by
            rw [beq_eq_false_iff_ne]
            intro e
            have : c = 95 := UInt8.toNat_inj.1 (Int.ofNat_inj.1 e)
            subst this
            revert hlet
            decide
          have hz1 : (97 : Int) ≤ z := by rw [HZ.out]; omega
          have hz2 : z ≤ 102 := by rw [HZ.out]; omega
          have HN : Hid (a * 16 + (z - 97 + 10) = ((acc * 16 + ((c ||| 32).toNat - 87) : Nat) : Int) ∧ acc * 16 + ((c ||| 32).toNat - 87) < 16 ^ (k + 1) ∧ hexV 0 t.data.toList = hexV (acc * 16 + ((c ||| 32).toNat - 87)) (t.data.toList.drop (k + 1))) := by
            refine ⟨by rw [HZ.out]; omega, by omega, ?_⟩
            rw [hh.out.2.2, HDR.out, hexV_some (hexD_let hdig hlet)]
          clear hh ha hacc h16 h168 h17 h178 hpow hc256 hz256 hdig hlet
          rcases nd with nd | ⟨nd, nd2⟩
          all_goals
            go_wp2_with (go_at_call 78; refine (lower_any _ _).mono ?_; rw [hzz]; rintro e w' ⟨rfl, rfl⟩)
            go_round
            case rel => exact ⟨k + 1, acc * 16 + ((c ||| 32).toNat - 87), a * 16 + (z - 97 + 10), rfl, by first | rfl | (congr 1; omega), by go_num, by omega, HN⟩
            case measure => simp [intOf]; omega
        · have HF : Hid (hexV 0 t.data.toList = none) := by
            unfold Hid
            rw [hh.out.2.2, HDR.out, hexV_none (hexD_no hdig hlet)]
          have zd : decide ((97 : Int) ≤ z) = false ∨ (decide ((97 : Int) ≤ z) = true ∧ decide (z ≤ 122) = false) ∨ (decide ((97 : Int) ≤ z) = true ∧ decide (z ≤ 122) = true ∧ 103 ≤ z ∧ z ≤ 122) := by
            have hzn : z = ((c ||| 32).toNat : Int) := HZ.out
            by_cases h5 : 97 ≤ z
            · by_cases h6 : z ≤ 122
              · exact .inr (.inr ⟨decide_eq_true h5, decide_eq_true h6, by omega, by omega⟩)
              · exact .inr (.inl ⟨decide_eq_true h5, decide_eq_false h6⟩)
            · exact .inl (decide_eq_false h5)
          clear hh ha hacc h16 h168 h17 h178 hpow hc256 hz256 hdig hlet
          by_cases c95 : ((c.toNat : Int) == 95) = true
          · rcases nd with nd | ⟨nd, nd2⟩
            all_goals
              rcases zd with zd | ⟨zd, zd2⟩ | ⟨zd, zd2, zd3, zd4⟩
              all_goals
                go_wp2_with (go_at_call 78; refine (lower_any _ _).mono ?_; rw [hzz]; rintro e w' ⟨rfl, rfl⟩)
                go_ret2
                exact ⟨hbw.out, .inr ⟨HF.out, rfl⟩⟩
          · have c95' : ((c.toNat : Int) == 95) = false := by simpa using c95
            clear c95
            rcases nd with nd | ⟨nd, nd2⟩
            all_goals
              rcases zd with zd | ⟨zd, zd2⟩ | ⟨zd, zd2, zd3, zd4⟩
              all_goals
                go_wp2_with (go_at_call 78; refine (lower_any _ _).mono ?_; rw [hzz]; rintro e w' ⟨rfl, rfl⟩)
                go_ret2
                exact ⟨hbw.out, .inr ⟨HF.out, rfl⟩⟩
    · have HF : Hid (hexV 0 t.data.toList = some acc) := by
        unfold Hid
        rw [hh.out.2.2, List.drop_eq_nil_of_le (by simp; omega)]
        rfl
      have hacc2 : acc < 4294967296 := by omega
      have HACC := Lib.hid hacc2
      obtain rfl := ha
      clear hh hacc h16 h168 hacc2
      go_wp2
      go_ret2
      exact ⟨hbw.out, .inl ⟨acc, HF.out, HACC.out, rfl⟩⟩
end Go.Proofs.YtghendoiohfolaaGreatDoor
