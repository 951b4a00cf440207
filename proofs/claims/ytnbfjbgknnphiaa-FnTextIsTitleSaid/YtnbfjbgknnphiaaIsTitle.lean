/- The package's istitle over a text below 128, and what the thin package makes of it. -/
import Derived.Test.YtnbfjbgknnphiaaTitled
namespace Go.Proofs.Ytnbfjbgknnphiaa
open Go.RowKit
set_option maxRecDepth 100000 in
theorem islower_at (c : Nat) (h : c < 128) (b : Bool) (hb : loB c = b) (w : World) : Calls Try.prog 19 #[.int .i32 (c : Int)] w fun e w' => e = .returned (.bool b) ∧ w = w' := by
  subst hb
  have d0 : decide ((c : Int) < 128) = true := by simp; omega
  by_cases h1 : 97 ≤ c
  · have d1 : decide ((97 : Int) ≤ (c : Int)) = true := by simp; omega
    by_cases h2 : c ≤ 122
    · have d2 : decide ((c : Int) ≤ 122) = true := by simp; omega
      have e : loB c = true := by unfold loB; simp; omega
      rw [e]
      clear e h1 h2 h
      go_enter Try.func19, Try.ntmps19
      go_wp2
      go_ret
      exact ⟨rfl, rfl⟩
    · have d2 : decide ((c : Int) ≤ 122) = false := by simp; omega
      have e : loB c = false := by unfold loB; simp; omega
      rw [e]
      clear e h1 h2 h
      go_enter Try.func19, Try.ntmps19
      go_wp2
      go_ret
      exact ⟨rfl, rfl⟩
  · have d1 : decide ((97 : Int) ≤ (c : Int)) = false := by simp; omega
    have e : loB c = false := by unfold loB; simp; omega
    rw [e]
    clear e h1 h
    go_enter Try.func19, Try.ntmps19
    go_wp2
    go_ret
    exact ⟨rfl, rfl⟩
set_option maxRecDepth 100000 in
theorem isupper_at (c : Nat) (h : c < 128) (b : Bool) (hb : upB c = b) (w : World) : Calls Try.prog 20 #[.int .i32 (c : Int)] w fun e w' => e = .returned (.bool b) ∧ w = w' := by
  subst hb
  have d0 : decide ((c : Int) < 128) = true := by simp; omega
  by_cases h1 : 65 ≤ c
  · have d1 : decide ((65 : Int) ≤ (c : Int)) = true := by simp; omega
    by_cases h2 : c ≤ 90
    · have d2 : decide ((c : Int) ≤ 90) = true := by simp; omega
      have e : upB c = true := by unfold upB; simp; omega
      rw [e]
      clear e h1 h2 h
      go_enter Try.func20, Try.ntmps20
      go_wp2
      go_ret
      exact ⟨rfl, rfl⟩
    · have d2 : decide ((c : Int) ≤ 90) = false := by simp; omega
      have e : upB c = false := by unfold upB; simp; omega
      rw [e]
      clear e h1 h2 h
      go_enter Try.func20, Try.ntmps20
      go_wp2
      go_ret
      exact ⟨rfl, rfl⟩
  · have d1 : decide ((65 : Int) ≤ (c : Int)) = false := by simp; omega
    have e : upB c = false := by unfold upB; simp; omega
    rw [e]
    clear e h1 h
    go_enter Try.func20, Try.ntmps20
    go_wp2
    go_ret
    exact ⟨rfl, rfl⟩
set_option maxRecDepth 100000 in
theorem istitle_rune (c : Nat) (h : c < 128) (w : World) : Calls Try.prog 18 #[.int .i32 (c : Int)] w fun e w' => e = .returned (.bool false) ∧ w = w' := by
  have d0 : decide ((c : Int) < 128) = true := by simp; omega
  clear h
  go_enter Try.func18, Try.ntmps18
  go_wp2
  go_ret
  exact ⟨rfl, rfl⟩
theorem check_none (name : ByteArray) (w : World) : Calls Try.prog 21 #[.string name, .slice none 0 0, .slice none 0 0, .int .i64 0, .int .i64 0] w fun e w' => e = .returned .nilIface ∧ w = w' := by
  go_enter Try.func21, Try.ntmps21
  go_wp2
  go_ret
  exact ⟨rfl, rfl⟩
set_option maxRecDepth 20000 in
theorem unpack_none (name : ByteArray) (w : World) : Calls Try.prog 15 #[.string name, .slice none 0 0, .slice none 0 0, .int .i64 0, .slice none 0 0] w fun e w' => e = .returned .nilIface ∧ w = w' := by
  go_enter Try.func15, Try.ntmps15
  go_wp2_with fail
  refine (check_none name _).mono ?_
  rintro e w' ⟨rfl, rfl⟩
  go_wp2_with fail
  refine wp_loop_rounds 1 ?_
  rw [rounds_succ]
  go_wp2
  go_ret
  exact ⟨rfl, rfl⟩
/-- The block of a builtin: its name, its function, its receiver. -/
def BuiltinAt (w : World) (b : Nat) (name : ByteArray) (fn recv : Value) : Prop := Blk w b 52 #[.string name, fn, recv]
theorem name_of (b : Nat) (name : ByteArray) (fn recv : Value) (w : World) (hB : BuiltinAt w b name fn recv) : Calls Try.prog 16 #[.pointer (some ⟨b, 0, none⟩)] w fun e w' => e = .returned (.string name) ∧ w = w' := by
  have c0 := hB.cell 0
  simp only [List.getElem?_toArray, List.getElem?_cons_zero, List.getElem?_cons_succ] at c0
  clear hB
  go_enter Try.func16, Try.ntmps16
  go_wp2
  go_ret
  exact ⟨rfl, rfl⟩
theorem recv_of (b : Nat) (name : ByteArray) (fn recv : Value) (w : World) (hB : BuiltinAt w b name fn recv) : Calls Try.prog 17 #[.pointer (some ⟨b, 0, none⟩)] w fun e w' => e = .returned recv ∧ w = w' := by
  have c2 := hB.cell 2
  simp only [List.getElem?_toArray, List.getElem?_cons_zero, List.getElem?_cons_succ] at c2
  clear hB
  go_enter Try.func17, Try.ntmps17
  go_wp2
  go_ret
  exact ⟨rfl, rfl⟩
@[go_sem] theorem Try.assertStr (v : Value) (w : World) : (Instr.typeAssert (.iface 43 v) 29 43 false).run Try.prog w = .ok v w := by kernel_rfl
theorem ret_truth {a b : Bool} (h : a = b) : Ending.returned (.tuple #[.iface 35 (.bool a), .nilIface]) = .returned (.tuple #[.iface 35 (.bool b), .nilIface]) := by rw [h]
def TruthPost (b : Bool) (w : World) (e : Ending) (w' : World) : Prop := e = .returned (.tuple #[.iface 35 (.bool b), .nilIface]) ∧ Below w.heap.size w w'
set_option maxRecDepth 20000 in
set_option maxHeartbeats 4000000 in
theorem string_istitle (s name : ByteArray) (fn : Value) (b : Nat) (hs : AsciiT s) (w : World) (hB : BuiltinAt w b name fn (.iface 43 (.string s))) :
    Calls Try.prog 12 #[.pointer none, .pointer (some ⟨b, 0, none⟩), .slice none 0 0, .slice none 0 0] w (TruthPost (titled s.data.toList false false) w) := by
  obtain ⟨hs60, hasc⟩ := hs
  have HA := Lib.hid hasc
  have HB := Lib.hid hB
  clear hasc hB
  go_enter Try.func12, Try.ntmps12
  go_wp2_with fail
  refine (name_of b name fn _ _ HB.out).mono ?_
  rintro e w' ⟨rfl, rfl⟩
  go_wp2_with fail
  refine (unpack_none name _).mono ?_
  rintro e w' ⟨rfl, rfl⟩
  go_wp2_with fail
  refine (recv_of b name fn _ _ HB.out).mono ?_
  rintro e w' ⟨rfl, rfl⟩
  clear HB
  go_wp2_with fail
  go_loopw [12, 13] (fun sm ah wr => ∃ (k : Nat) (x y : Bool), k ≤ s.size ∧ wr = w.iter s k ∧ sm = .bool x ∧ ah = .bool y ∧ Hid (titled (s.data.toList.drop k) x y = titled s.data.toList false false)) (fun _ _ wr => s.size - wr.iterPos w.heap.size)
  case atStart => exact ⟨0, false, false, Nat.zero_le _, rfl, rfl, rfl, rfl⟩
  case round =>
    obtain ⟨k, x, y, hk, rfl, rfl, rfl, ht⟩ := hrel
    by_cases hks : k < s.size
    · have h128 := HA.out k hks
      have hnx := fun ty => run_next_ascii (P := Try.prog) w s k ty hks h128
      by_cases hU : 65 ≤ (s[k]'hks).toNat ∧ (s[k]'hks).toNat ≤ 90
      · have hu : upB (s[k]'hks).toNat = true := by unfold upB; simp; omega
        have hl : loB (s[k]'hks).toNat = false := by unfold loB; simp; omega
        have d65 : decide ((65 : Int) ≤ ((s[k]'hks).toNat : Int)) = true := by simp; omega
        have d90 : decide (((s[k]'hks).toNat : Int) ≤ 90) = true := by simp; omega
        have HU := Lib.hid hu
        have HL := Lib.hid hl
        clear hu hl hU
        cases x <;> cases y
        · have hn := titled_on s k false false hks (by rw [HU.out, HL.out]; rfl)
          rw [HU.out, HL.out] at hn
          have HN := Lib.hid hn
          clear hn
          go_wp2_with (first | (go_at_call 18; refine (istitle_rune _ h128 _).mono ?_; rintro e w' ⟨rfl, rfl⟩) | (go_at_call 19; refine (islower_at _ h128 _ HL.out _).mono ?_; rintro e w' ⟨rfl, rfl⟩) | (go_at_call 20; refine (isupper_at _ h128 _ HU.out _).mono ?_; rintro e w' ⟨rfl, rfl⟩))
          go_roundw
          case rel => exact ⟨k + 1, _, _, by omega, rfl, rfl, rfl, by unfold Hid; rw [← ht.out, HN.out]; rfl⟩
          case measure => simp; omega
        · have hn := titled_no s k false true hks (by rw [HU.out, HL.out]; rfl)
          have HN := Lib.hid hn
          clear hn
          go_wp2_with (first | (go_at_call 18; refine (istitle_rune _ h128 _).mono ?_; rintro e w' ⟨rfl, rfl⟩) | (go_at_call 19; refine (islower_at _ h128 _ HL.out _).mono ?_; rintro e w' ⟨rfl, rfl⟩) | (go_at_call 20; refine (isupper_at _ h128 _ HU.out _).mono ?_; rintro e w' ⟨rfl, rfl⟩))
          go_ret2
          exact ⟨ret_truth (by rw [← ht.out, HN.out]), (Below.refl _ w).alloc (Nat.le_refl _) _⟩
        · have hn := titled_on s k true false hks (by rw [HU.out, HL.out]; rfl)
          rw [HU.out, HL.out] at hn
          have HN := Lib.hid hn
          clear hn
          go_wp2_with (first | (go_at_call 18; refine (istitle_rune _ h128 _).mono ?_; rintro e w' ⟨rfl, rfl⟩) | (go_at_call 19; refine (islower_at _ h128 _ HL.out _).mono ?_; rintro e w' ⟨rfl, rfl⟩) | (go_at_call 20; refine (isupper_at _ h128 _ HU.out _).mono ?_; rintro e w' ⟨rfl, rfl⟩))
          go_roundw
          case rel => exact ⟨k + 1, _, _, by omega, rfl, rfl, rfl, by unfold Hid; rw [← ht.out, HN.out]; rfl⟩
          case measure => simp; omega
        · have hn := titled_no s k true true hks (by rw [HU.out, HL.out]; rfl)
          have HN := Lib.hid hn
          clear hn
          go_wp2_with (first | (go_at_call 18; refine (istitle_rune _ h128 _).mono ?_; rintro e w' ⟨rfl, rfl⟩) | (go_at_call 19; refine (islower_at _ h128 _ HL.out _).mono ?_; rintro e w' ⟨rfl, rfl⟩) | (go_at_call 20; refine (isupper_at _ h128 _ HU.out _).mono ?_; rintro e w' ⟨rfl, rfl⟩))
          go_ret2
          exact ⟨ret_truth (by rw [← ht.out, HN.out]), (Below.refl _ w).alloc (Nat.le_refl _) _⟩
      by_cases hL : 97 ≤ (s[k]'hks).toNat ∧ (s[k]'hks).toNat ≤ 122
      · have hu : upB (s[k]'hks).toNat = false := by unfold upB; simp; omega
        have hl : loB (s[k]'hks).toNat = true := by unfold loB; simp; omega
        have d65 : decide ((65 : Int) ≤ ((s[k]'hks).toNat : Int)) = true := by simp; omega
        have d90 : decide (((s[k]'hks).toNat : Int) ≤ 90) = false := by simp; omega
        have HU := Lib.hid hu
        have HL := Lib.hid hl
        clear hu hl hL hU
        cases x <;> cases y
        · have hn := titled_no s k false false hks (by rw [HU.out, HL.out]; rfl)
          have HN := Lib.hid hn
          clear hn
          go_wp2_with (first | (go_at_call 18; refine (istitle_rune _ h128 _).mono ?_; rintro e w' ⟨rfl, rfl⟩) | (go_at_call 19; refine (islower_at _ h128 _ HL.out _).mono ?_; rintro e w' ⟨rfl, rfl⟩) | (go_at_call 20; refine (isupper_at _ h128 _ HU.out _).mono ?_; rintro e w' ⟨rfl, rfl⟩))
          go_ret2
          exact ⟨ret_truth (by rw [← ht.out, HN.out]), (Below.refl _ w).alloc (Nat.le_refl _) _⟩
        · have hn := titled_on s k false true hks (by rw [HU.out, HL.out]; rfl)
          rw [HU.out, HL.out] at hn
          have HN := Lib.hid hn
          clear hn
          go_wp2_with (first | (go_at_call 18; refine (istitle_rune _ h128 _).mono ?_; rintro e w' ⟨rfl, rfl⟩) | (go_at_call 19; refine (islower_at _ h128 _ HL.out _).mono ?_; rintro e w' ⟨rfl, rfl⟩) | (go_at_call 20; refine (isupper_at _ h128 _ HU.out _).mono ?_; rintro e w' ⟨rfl, rfl⟩))
          go_roundw
          case rel => exact ⟨k + 1, _, _, by omega, rfl, rfl, rfl, by unfold Hid; rw [← ht.out, HN.out]; rfl⟩
          case measure => simp; omega
        · have hn := titled_no s k true false hks (by rw [HU.out, HL.out]; rfl)
          have HN := Lib.hid hn
          clear hn
          go_wp2_with (first | (go_at_call 18; refine (istitle_rune _ h128 _).mono ?_; rintro e w' ⟨rfl, rfl⟩) | (go_at_call 19; refine (islower_at _ h128 _ HL.out _).mono ?_; rintro e w' ⟨rfl, rfl⟩) | (go_at_call 20; refine (isupper_at _ h128 _ HU.out _).mono ?_; rintro e w' ⟨rfl, rfl⟩))
          go_ret2
          exact ⟨ret_truth (by rw [← ht.out, HN.out]), (Below.refl _ w).alloc (Nat.le_refl _) _⟩
        · have hn := titled_on s k true true hks (by rw [HU.out, HL.out]; rfl)
          rw [HU.out, HL.out] at hn
          have HN := Lib.hid hn
          clear hn
          go_wp2_with (first | (go_at_call 18; refine (istitle_rune _ h128 _).mono ?_; rintro e w' ⟨rfl, rfl⟩) | (go_at_call 19; refine (islower_at _ h128 _ HL.out _).mono ?_; rintro e w' ⟨rfl, rfl⟩) | (go_at_call 20; refine (isupper_at _ h128 _ HU.out _).mono ?_; rintro e w' ⟨rfl, rfl⟩))
          go_roundw
          case rel => exact ⟨k + 1, _, _, by omega, rfl, rfl, rfl, by unfold Hid; rw [← ht.out, HN.out]; rfl⟩
          case measure => simp; omega
      by_cases hO1 : (s[k]'hks).toNat < 65
      · have hu : upB (s[k]'hks).toNat = false := by unfold upB; simp; omega
        have hl : loB (s[k]'hks).toNat = false := by unfold loB; simp; omega
        have d65 : decide ((65 : Int) ≤ ((s[k]'hks).toNat : Int)) = false := by simp; omega
        have d90 : decide (((s[k]'hks).toNat : Int) ≤ 90) = true := by simp; omega
        have HU := Lib.hid hu
        have HL := Lib.hid hl
        clear hu hl hO1 hL hU
        cases x <;> cases y
        · have hn := titled_on s k false false hks (by rw [HU.out, HL.out]; rfl)
          rw [HU.out, HL.out] at hn
          have HN := Lib.hid hn
          clear hn
          go_wp2_with (first | (go_at_call 18; refine (istitle_rune _ h128 _).mono ?_; rintro e w' ⟨rfl, rfl⟩) | (go_at_call 19; refine (islower_at _ h128 _ HL.out _).mono ?_; rintro e w' ⟨rfl, rfl⟩) | (go_at_call 20; refine (isupper_at _ h128 _ HU.out _).mono ?_; rintro e w' ⟨rfl, rfl⟩))
          go_roundw
          case rel => exact ⟨k + 1, _, _, by omega, rfl, rfl, rfl, by unfold Hid; rw [← ht.out, HN.out]; rfl⟩
          case measure => simp; omega
        · have hn := titled_on s k false true hks (by rw [HU.out, HL.out]; rfl)
          rw [HU.out, HL.out] at hn
          have HN := Lib.hid hn
          clear hn
          go_wp2_with (first | (go_at_call 18; refine (istitle_rune _ h128 _).mono ?_; rintro e w' ⟨rfl, rfl⟩) | (go_at_call 19; refine (islower_at _ h128 _ HL.out _).mono ?_; rintro e w' ⟨rfl, rfl⟩) | (go_at_call 20; refine (isupper_at _ h128 _ HU.out _).mono ?_; rintro e w' ⟨rfl, rfl⟩))
          go_roundw
          case rel => exact ⟨k + 1, _, _, by omega, rfl, rfl, rfl, by unfold Hid; rw [← ht.out, HN.out]; rfl⟩
          case measure => simp; omega
        · have hn := titled_on s k true false hks (by rw [HU.out, HL.out]; rfl)
          rw [HU.out, HL.out] at hn
          have HN := Lib.hid hn
          clear hn
          go_wp2_with (first | (go_at_call 18; refine (istitle_rune _ h128 _).mono ?_; rintro e w' ⟨rfl, rfl⟩) | (go_at_call 19; refine (islower_at _ h128 _ HL.out _).mono ?_; rintro e w' ⟨rfl, rfl⟩) | (go_at_call 20; refine (isupper_at _ h128 _ HU.out _).mono ?_; rintro e w' ⟨rfl, rfl⟩))
          go_roundw
          case rel => exact ⟨k + 1, _, _, by omega, rfl, rfl, rfl, by unfold Hid; rw [← ht.out, HN.out]; rfl⟩
          case measure => simp; omega
        · have hn := titled_on s k true true hks (by rw [HU.out, HL.out]; rfl)
          rw [HU.out, HL.out] at hn
          have HN := Lib.hid hn
          clear hn
          go_wp2_with (first | (go_at_call 18; refine (istitle_rune _ h128 _).mono ?_; rintro e w' ⟨rfl, rfl⟩) | (go_at_call 19; refine (islower_at _ h128 _ HL.out _).mono ?_; rintro e w' ⟨rfl, rfl⟩) | (go_at_call 20; refine (isupper_at _ h128 _ HU.out _).mono ?_; rintro e w' ⟨rfl, rfl⟩))
          go_roundw
          case rel => exact ⟨k + 1, _, _, by omega, rfl, rfl, rfl, by unfold Hid; rw [← ht.out, HN.out]; rfl⟩
          case measure => simp; omega
      · have hu : upB (s[k]'hks).toNat = false := by unfold upB; simp; omega
        have hl : loB (s[k]'hks).toNat = false := by unfold loB; simp; omega
        have d65 : decide ((65 : Int) ≤ ((s[k]'hks).toNat : Int)) = true := by simp; omega
        have d90 : decide (((s[k]'hks).toNat : Int) ≤ 90) = false := by simp; omega
        have HU := Lib.hid hu
        have HL := Lib.hid hl
        clear hu hl hO1 hL hU
        cases x <;> cases y
        · have hn := titled_on s k false false hks (by rw [HU.out, HL.out]; rfl)
          rw [HU.out, HL.out] at hn
          have HN := Lib.hid hn
          clear hn
          go_wp2_with (first | (go_at_call 18; refine (istitle_rune _ h128 _).mono ?_; rintro e w' ⟨rfl, rfl⟩) | (go_at_call 19; refine (islower_at _ h128 _ HL.out _).mono ?_; rintro e w' ⟨rfl, rfl⟩) | (go_at_call 20; refine (isupper_at _ h128 _ HU.out _).mono ?_; rintro e w' ⟨rfl, rfl⟩))
          go_roundw
          case rel => exact ⟨k + 1, _, _, by omega, rfl, rfl, rfl, by unfold Hid; rw [← ht.out, HN.out]; rfl⟩
          case measure => simp; omega
        · have hn := titled_on s k false true hks (by rw [HU.out, HL.out]; rfl)
          rw [HU.out, HL.out] at hn
          have HN := Lib.hid hn
          clear hn
          go_wp2_with (first | (go_at_call 18; refine (istitle_rune _ h128 _).mono ?_; rintro e w' ⟨rfl, rfl⟩) | (go_at_call 19; refine (islower_at _ h128 _ HL.out _).mono ?_; rintro e w' ⟨rfl, rfl⟩) | (go_at_call 20; refine (isupper_at _ h128 _ HU.out _).mono ?_; rintro e w' ⟨rfl, rfl⟩))
          go_roundw
          case rel => exact ⟨k + 1, _, _, by omega, rfl, rfl, rfl, by unfold Hid; rw [← ht.out, HN.out]; rfl⟩
          case measure => simp; omega
        · have hn := titled_on s k true false hks (by rw [HU.out, HL.out]; rfl)
          rw [HU.out, HL.out] at hn
          have HN := Lib.hid hn
          clear hn
          go_wp2_with (first | (go_at_call 18; refine (istitle_rune _ h128 _).mono ?_; rintro e w' ⟨rfl, rfl⟩) | (go_at_call 19; refine (islower_at _ h128 _ HL.out _).mono ?_; rintro e w' ⟨rfl, rfl⟩) | (go_at_call 20; refine (isupper_at _ h128 _ HU.out _).mono ?_; rintro e w' ⟨rfl, rfl⟩))
          go_roundw
          case rel => exact ⟨k + 1, _, _, by omega, rfl, rfl, rfl, by unfold Hid; rw [← ht.out, HN.out]; rfl⟩
          case measure => simp; omega
        · have hn := titled_on s k true true hks (by rw [HU.out, HL.out]; rfl)
          rw [HU.out, HL.out] at hn
          have HN := Lib.hid hn
          clear hn
          go_wp2_with (first | (go_at_call 18; refine (istitle_rune _ h128 _).mono ?_; rintro e w' ⟨rfl, rfl⟩) | (go_at_call 19; refine (islower_at _ h128 _ HL.out _).mono ?_; rintro e w' ⟨rfl, rfl⟩) | (go_at_call 20; refine (isupper_at _ h128 _ HU.out _).mono ?_; rintro e w' ⟨rfl, rfl⟩))
          go_roundw
          case rel => exact ⟨k + 1, _, _, by omega, rfl, rfl, rfl, by unfold Hid; rw [← ht.out, HN.out]; rfl⟩
          case measure => simp; omega
    · have hke : k = s.size := by omega
      have HE := Lib.hid (titled_end s k x y hks)
      subst hke
      have hnx := fun ty => run_next_end (P := Try.prog) w s s.size ty hks
      go_wp2
      go_ret2
      exact ⟨ret_truth (by rw [← ht.out, HE.out]), (Below.refl _ w).alloc (Nat.le_refl _) _⟩
end Go.Proofs.Ytnbfjbgknnphiaa
