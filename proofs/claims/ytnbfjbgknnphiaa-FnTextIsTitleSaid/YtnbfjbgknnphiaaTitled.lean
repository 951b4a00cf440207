/- Whether a text is titled: the plain function, the reference's walk, and the letters below 128. -/
import Derived.Test.YtnbfjbgknnphiaaAscii
import Derived.Laws.RangeString
import Derived.Deep.QuietTactic
import Derived.BigQuiet
import Derived.Laws.EntriesVeiled
namespace Go.Proofs.Ytnbfjbgknnphiaa
open Go.RowKit
def upB (c : Nat) : Bool := decide (65 ≤ c ∧ c ≤ 90)
def loB (c : Nat) : Bool := decide (97 ≤ c ∧ c ≤ 122)
def titled : List UInt8 → Bool → Bool → Bool
  | [], sm, _ => sm
  | c :: r, sm, ahead => if (upB c.toNat && ahead || loB c.toNat && !ahead) = true then false else titled r (sm || (upB c.toNat || loB c.toNat)) (upB c.toNat || loB c.toNat)
theorem titled_end (s : ByteArray) (k : Nat) (x y : Bool) (h : ¬ k < s.size) : titled (s.data.toList.drop k) x y = x := by
  have hl : s.data.toList.length = s.size := by simp
  rw [List.drop_eq_nil_of_le (by omega)]; rfl
theorem titled_no (s : ByteArray) (k : Nat) (x y : Bool) (h : k < s.size) (hc : (upB (s[k]'h).toNat && y || loB (s[k]'h).toNat && !y) = true) : titled (s.data.toList.drop k) x y = false := by
  rw [drop_cons s k h, titled, if_pos hc]
theorem titled_on (s : ByteArray) (k : Nat) (x y : Bool) (h : k < s.size) (hc : (upB (s[k]'h).toNat && y || loB (s[k]'h).toNat && !y) = false) :
    titled (s.data.toList.drop k) x y = titled (s.data.toList.drop (k + 1)) (x || (upB (s[k]'h).toNat || loB (s[k]'h).toNat)) (upB (s[k]'h).toNat || loB (s[k]'h).toNat) := by
  rw [drop_cons s k h, titled, if_neg (by rw [hc]; simp)]
theorem upper_at (c : Nat) (b : Bool) (hb : upB c = b) (w : World) : Calls Try.prog 9 #[.int .u8 (c : Int)] w fun e w' => e = .returned (.bool b) ∧ w = w' := by
  subst hb
  by_cases h1 : 65 ≤ c
  · have d1 : decide ((65 : Int) ≤ (c : Int)) = true := by simp; omega
    by_cases h2 : c ≤ 90
    · have d2 : decide ((c : Int) ≤ 90) = true := by simp; omega
      have e : upB c = true := by unfold upB; simp; omega
      rw [e]
      clear e h1 h2
      go_enter Try.func9, Try.ntmps9
      go_wp2
      go_ret
      exact ⟨rfl, rfl⟩
    · have d2 : decide ((c : Int) ≤ 90) = false := by simp; omega
      have e : upB c = false := by unfold upB; simp; omega
      rw [e]
      clear e h1 h2
      go_enter Try.func9, Try.ntmps9
      go_wp2
      go_ret
      exact ⟨rfl, rfl⟩
  · have d1 : decide ((65 : Int) ≤ (c : Int)) = false := by simp; omega
    have e : upB c = false := by unfold upB; simp; omega
    rw [e]
    clear e h1
    go_enter Try.func9, Try.ntmps9
    go_wp2
    go_ret
    exact ⟨rfl, rfl⟩
theorem lower_at (c : Nat) (b : Bool) (hb : loB c = b) (w : World) : Calls Try.prog 10 #[.int .u8 (c : Int)] w fun e w' => e = .returned (.bool b) ∧ w = w' := by
  subst hb
  by_cases h1 : 97 ≤ c
  · have d1 : decide ((97 : Int) ≤ (c : Int)) = true := by simp; omega
    by_cases h2 : c ≤ 122
    · have d2 : decide ((c : Int) ≤ 122) = true := by simp; omega
      have e : loB c = true := by unfold loB; simp; omega
      rw [e]
      clear e h1 h2
      go_enter Try.func10, Try.ntmps10
      go_wp2
      go_ret
      exact ⟨rfl, rfl⟩
    · have d2 : decide ((c : Int) ≤ 122) = false := by simp; omega
      have e : loB c = false := by unfold loB; simp; omega
      rw [e]
      clear e h1 h2
      go_enter Try.func10, Try.ntmps10
      go_wp2
      go_ret
      exact ⟨rfl, rfl⟩
  · have d1 : decide ((97 : Int) ≤ (c : Int)) = false := by simp; omega
    have e : loB c = false := by unfold loB; simp; omega
    rw [e]
    clear e h1
    go_enter Try.func10, Try.ntmps10
    go_wp2
    go_ret
    exact ⟨rfl, rfl⟩
theorem up_lo (c : Nat) : ¬ (upB c = true ∧ loB c = true) := by unfold upB loB; simp; omega
def TitledPost (s : ByteArray) (w : World) (e : Ending) (w' : World) : Prop := e = .returned (.bool (titled s.data.toList false false)) ∧ w = w'
set_option maxRecDepth 20000 in
set_option maxHeartbeats 4000000 in
theorem spec_titled (s : ByteArray) (hs : s.size ≤ 60) (w : World) :
    Calls Try.prog 6 #[.string s] w (TitledPost s w) := by
  go_enter Try.func6, Try.ntmps6
  go_wp2_with fail
  go_loop [3, 4, 5] (fun sm ah i => ∃ (k : Nat) (x y : Bool), i = .int .i64 k ∧ k ≤ s.size ∧ sm = .bool x ∧ ah = .bool y ∧ Hid (titled (s.data.toList.drop k) x y = titled s.data.toList false false)) (fun _ _ i => s.size - (intOf i).toNat)
  case atStart => exact ⟨0, false, false, rfl, Nat.zero_le _, rfl, rfl, rfl⟩
  case round =>
    obtain ⟨k, x, y, rfl, hk, rfl, rfl, ht⟩ := hrel
    by_cases hks : k < s.size
    · have hd : decide ((k : Int) < (s.size : Int)) = true := by simp; omega
      cases x <;> cases y <;> cases hu : upB (s[k]'hks).toNat <;> cases hl : loB (s[k]'hks).toNat
      · have hn := titled_on s k false false hks (by rw [hu, hl]; rfl)
        rw [hu, hl] at hn
        have HN := Lib.hid hn
        have HU := Lib.hid hu
        have HL := Lib.hid hl
        clear hn hu hl
        go_wp2_with (first | (go_at_call 9; refine (upper_at _ _ HU.out _).mono ?_; rintro e w' ⟨rfl, rfl⟩) | (go_at_call 10; refine (lower_at _ _ HL.out _).mono ?_; rintro e w' ⟨rfl, rfl⟩))
        go_round
        case rel => exact ⟨k + 1, _, _, by go_num, by omega, rfl, rfl, by unfold Hid; rw [← ht.out, HN.out]; rfl⟩
        case measure => simp [intOf]; omega
      · have hn := titled_no s k false false hks (by rw [hu, hl]; rfl)
        have HN := Lib.hid hn
        have HU := Lib.hid hu
        have HL := Lib.hid hl
        clear hn hu hl
        go_wp2_with (first | (go_at_call 9; refine (upper_at _ _ HU.out _).mono ?_; rintro e w' ⟨rfl, rfl⟩) | (go_at_call 10; refine (lower_at _ _ HL.out _).mono ?_; rintro e w' ⟨rfl, rfl⟩))
        go_ret
        exact ⟨ret_bool (by rw [← ht.out, HN.out]), rfl⟩
      · have hn := titled_on s k false false hks (by rw [hu, hl]; rfl)
        rw [hu, hl] at hn
        have HN := Lib.hid hn
        have HU := Lib.hid hu
        have HL := Lib.hid hl
        clear hn hu hl
        go_wp2_with (first | (go_at_call 9; refine (upper_at _ _ HU.out _).mono ?_; rintro e w' ⟨rfl, rfl⟩) | (go_at_call 10; refine (lower_at _ _ HL.out _).mono ?_; rintro e w' ⟨rfl, rfl⟩))
        go_round
        case rel => exact ⟨k + 1, _, _, by go_num, by omega, rfl, rfl, by unfold Hid; rw [← ht.out, HN.out]; rfl⟩
        case measure => simp [intOf]; omega
      · exact absurd ⟨hu, hl⟩ (up_lo _)
      · have hn := titled_on s k false true hks (by rw [hu, hl]; rfl)
        rw [hu, hl] at hn
        have HN := Lib.hid hn
        have HU := Lib.hid hu
        have HL := Lib.hid hl
        clear hn hu hl
        go_wp2_with (first | (go_at_call 9; refine (upper_at _ _ HU.out _).mono ?_; rintro e w' ⟨rfl, rfl⟩) | (go_at_call 10; refine (lower_at _ _ HL.out _).mono ?_; rintro e w' ⟨rfl, rfl⟩))
        go_round
        case rel => exact ⟨k + 1, _, _, by go_num, by omega, rfl, rfl, by unfold Hid; rw [← ht.out, HN.out]; rfl⟩
        case measure => simp [intOf]; omega
      · have hn := titled_on s k false true hks (by rw [hu, hl]; rfl)
        rw [hu, hl] at hn
        have HN := Lib.hid hn
        have HU := Lib.hid hu
        have HL := Lib.hid hl
        clear hn hu hl
        go_wp2_with (first | (go_at_call 9; refine (upper_at _ _ HU.out _).mono ?_; rintro e w' ⟨rfl, rfl⟩) | (go_at_call 10; refine (lower_at _ _ HL.out _).mono ?_; rintro e w' ⟨rfl, rfl⟩))
        go_round
        case rel => exact ⟨k + 1, _, _, by go_num, by omega, rfl, rfl, by unfold Hid; rw [← ht.out, HN.out]; rfl⟩
        case measure => simp [intOf]; omega
      · have hn := titled_no s k false true hks (by rw [hu, hl]; rfl)
        have HN := Lib.hid hn
        have HU := Lib.hid hu
        have HL := Lib.hid hl
        clear hn hu hl
        go_wp2_with (first | (go_at_call 9; refine (upper_at _ _ HU.out _).mono ?_; rintro e w' ⟨rfl, rfl⟩) | (go_at_call 10; refine (lower_at _ _ HL.out _).mono ?_; rintro e w' ⟨rfl, rfl⟩))
        go_ret
        exact ⟨ret_bool (by rw [← ht.out, HN.out]), rfl⟩
      · exact absurd ⟨hu, hl⟩ (up_lo _)
      · have hn := titled_on s k true false hks (by rw [hu, hl]; rfl)
        rw [hu, hl] at hn
        have HN := Lib.hid hn
        have HU := Lib.hid hu
        have HL := Lib.hid hl
        clear hn hu hl
        go_wp2_with (first | (go_at_call 9; refine (upper_at _ _ HU.out _).mono ?_; rintro e w' ⟨rfl, rfl⟩) | (go_at_call 10; refine (lower_at _ _ HL.out _).mono ?_; rintro e w' ⟨rfl, rfl⟩))
        go_round
        case rel => exact ⟨k + 1, _, _, by go_num, by omega, rfl, rfl, by unfold Hid; rw [← ht.out, HN.out]; rfl⟩
        case measure => simp [intOf]; omega
      · have hn := titled_no s k true false hks (by rw [hu, hl]; rfl)
        have HN := Lib.hid hn
        have HU := Lib.hid hu
        have HL := Lib.hid hl
        clear hn hu hl
        go_wp2_with (first | (go_at_call 9; refine (upper_at _ _ HU.out _).mono ?_; rintro e w' ⟨rfl, rfl⟩) | (go_at_call 10; refine (lower_at _ _ HL.out _).mono ?_; rintro e w' ⟨rfl, rfl⟩))
        go_ret
        exact ⟨ret_bool (by rw [← ht.out, HN.out]), rfl⟩
      · have hn := titled_on s k true false hks (by rw [hu, hl]; rfl)
        rw [hu, hl] at hn
        have HN := Lib.hid hn
        have HU := Lib.hid hu
        have HL := Lib.hid hl
        clear hn hu hl
        go_wp2_with (first | (go_at_call 9; refine (upper_at _ _ HU.out _).mono ?_; rintro e w' ⟨rfl, rfl⟩) | (go_at_call 10; refine (lower_at _ _ HL.out _).mono ?_; rintro e w' ⟨rfl, rfl⟩))
        go_round
        case rel => exact ⟨k + 1, _, _, by go_num, by omega, rfl, rfl, by unfold Hid; rw [← ht.out, HN.out]; rfl⟩
        case measure => simp [intOf]; omega
      · exact absurd ⟨hu, hl⟩ (up_lo _)
      · have hn := titled_on s k true true hks (by rw [hu, hl]; rfl)
        rw [hu, hl] at hn
        have HN := Lib.hid hn
        have HU := Lib.hid hu
        have HL := Lib.hid hl
        clear hn hu hl
        go_wp2_with (first | (go_at_call 9; refine (upper_at _ _ HU.out _).mono ?_; rintro e w' ⟨rfl, rfl⟩) | (go_at_call 10; refine (lower_at _ _ HL.out _).mono ?_; rintro e w' ⟨rfl, rfl⟩))
        go_round
        case rel => exact ⟨k + 1, _, _, by go_num, by omega, rfl, rfl, by unfold Hid; rw [← ht.out, HN.out]; rfl⟩
        case measure => simp [intOf]; omega
      · have hn := titled_on s k true true hks (by rw [hu, hl]; rfl)
        rw [hu, hl] at hn
        have HN := Lib.hid hn
        have HU := Lib.hid hu
        have HL := Lib.hid hl
        clear hn hu hl
        go_wp2_with (first | (go_at_call 9; refine (upper_at _ _ HU.out _).mono ?_; rintro e w' ⟨rfl, rfl⟩) | (go_at_call 10; refine (lower_at _ _ HL.out _).mono ?_; rintro e w' ⟨rfl, rfl⟩))
        go_round
        case rel => exact ⟨k + 1, _, _, by go_num, by omega, rfl, rfl, by unfold Hid; rw [← ht.out, HN.out]; rfl⟩
        case measure => simp [intOf]; omega
      · have hn := titled_no s k true true hks (by rw [hu, hl]; rfl)
        have HN := Lib.hid hn
        have HU := Lib.hid hu
        have HL := Lib.hid hl
        clear hn hu hl
        go_wp2_with (first | (go_at_call 9; refine (upper_at _ _ HU.out _).mono ?_; rintro e w' ⟨rfl, rfl⟩) | (go_at_call 10; refine (lower_at _ _ HL.out _).mono ?_; rintro e w' ⟨rfl, rfl⟩))
        go_ret
        exact ⟨ret_bool (by rw [← ht.out, HN.out]), rfl⟩
      · exact absurd ⟨hu, hl⟩ (up_lo _)
    · have hd : decide ((k : Int) < (s.size : Int)) = false := by simp; omega
      have HE := Lib.hid (titled_end s k x y hks)
      go_wp2
      go_ret
      exact ⟨ret_bool (by rw [← ht.out, HE.out]), rfl⟩
end Go.Proofs.Ytnbfjbgknnphiaa
