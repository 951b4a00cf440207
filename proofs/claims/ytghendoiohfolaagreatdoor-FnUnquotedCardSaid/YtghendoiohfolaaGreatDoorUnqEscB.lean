/- The reference's escapes, whole. -/
import Derived.Test.YtghendoiohfolaaGreatDoorUnqEsc
namespace Go.Proofs.YtghendoiohfolaaGreatDoor
set_option linter.unusedSimpArgs false
set_option linter.unusedVariables false
set_option linter.unnecessarySimpa false
open Go.RowKit
theorem nm_eq (c : UInt8) (k : Nat) (hk : k < 10) (hc : nmL.getD k 0 = c) : ((c.toNat : Int) == (((⟨#[110, 114, 116, 97, 98, 102, 118, 34, 39, 92]⟩ : ByteArray)[k]'hk).toNat : Int)) = true := by
  rw [beq_iff_eq]
  have h : ∀ j : Fin 10, nmL.getD j.1 0 = (⟨#[110, 114, 116, 97, 98, 102, 118, 34, 39, 92]⟩ : ByteArray)[j.1]'j.2 := by decide +kernel
  rw [← hc, h ⟨k, hk⟩]
theorem nm_ne1 (c : UInt8) (k : Nat) (hk : k < 10) (hc : nmL.getD k 0 ≠ c) : ((c.toNat : Int) == (((⟨#[110, 114, 116, 97, 98, 102, 118, 34, 39, 92]⟩ : ByteArray)[k]'hk).toNat : Int)) = false := by
  rw [beq_eq_false_iff_ne]
  intro e
  refine hc (UInt8.toNat_inj.1 ?_)
  have h : ∀ j : Fin 10, nmL.getD j.1 0 = (⟨#[110, 114, 116, 97, 98, 102, 118, 34, 39, 92]⟩ : ByteArray)[j.1]'j.2 := by decide +kernel
  rw [h ⟨k, hk⟩]
  exact (Int.ofNat_inj.1 e).symm
theorem nm_inj {i j : Nat} (hi : i < 10) (hj : j < 10) (h : nmL.getD i 0 = nmL.getD j 0) : i = j := by
  have : ∀ i j : Fin 10, nmL.getD i.1 0 = nmL.getD j.1 0 → i = j := by decide +kernel
  simpa using congrArg Fin.val (this ⟨i, hi⟩ ⟨j, hj⟩ h)
theorem one_at (k : Nat) (hk : k < 10) : one? (nmL.getD k 0) = some ((⟨#[10, 13, 9, 7, 8, 12, 11, 34, 39, 92]⟩ : ByteArray)[k]'hk) := by
  have : ∀ i : Fin 10, one? (nmL.getD i.1 0) = some ((⟨#[10, 13, 9, 7, 8, 12, 11, 34, 39, 92]⟩ : ByteArray)[i.1]'i.2) := by decide +kernel
  exact this ⟨k, hk⟩
theorem esc_two (by_ : Bool) (b c x : UInt8) (t : List UInt8) (h : one? c = some x) : esc by_ (b :: c :: t) = some ([x], 2) := by simp only [esc, h]
theorem two_of (s : ByteArray) (h1 : 1 < s.size) : s.data.toList = s[0] :: s[1] :: s.data.toList.drop 2 := by
  have h := drop_cons s 0 (by omega)
  rw [List.drop_zero, drop_cons s 1 h1] at h
  exact h
set_option maxRecDepth 20000 in
set_option maxHeartbeats 4000000 in
theorem esc_one (s : ByteArray) (by_ : Bool) (w : World) (hs : s.size ≤ 1000000) (h1 : 1 < s.size) (j : Nat) (hj : j < 10) (hc : nmL.getD j 0 = s[1]'h1) :
    Calls Tryz.prog 76 #[.string s, .bool by_] w (EscPost (esc by_ s.data.toList) w) := by
  have HE : Hid (esc by_ s.data.toList = some ([(⟨#[10, 13, 9, 7, 8, 12, 11, 34, 39, 92]⟩ : ByteArray)[j]'hj], 2)) := by
    unfold Hid
    rw [two_of s h1]
    exact esc_two by_ _ _ _ _ (by rw [← hc]; exact one_at j hj)
  have g1 : (1 : Int) < (s.size : Int) := by omega
  have g0 : (0 : Int) ≤ 1 := by omega
  have HC := Lib.hid hc
  clear hc
  go_enter Tryz.func76, Tryz.ntmps76
  go_wp2_with fail
  go_loopw [6] (fun iv wr => ∃ k d : Nat, k ≤ j ∧ iv = .int .i64 k ∧ wr = w.drewN d) (fun iv _ => 10 - (intOf iv).toNat)
  case atStart => exact ⟨0, 0, by omega, rfl, rfl⟩
  case round =>
    obtain ⟨k, d, hk, rfl, rfl⟩ := hrel
    have hk0 : (0 : Int) ≤ (k : Int) := by omega
    have hk1 : (k : Int) < 10 := by omega
    have hk10 : k < 10 := by omega
    by_cases hkj : k < j
    · have hne := nm_ne1 (s[1]'h1) k hk10 (fun e => by rw [← HC.out] at e; have := nm_inj hk10 hj e; omega)
      go_wp2
      go_quiet (fail)
      go_wp2
      go_roundw
      case rel => exact ⟨k + 1, _, by omega, by go_num, rfl⟩
      case measure => simp [intOf]; omega
    · obtain rfl : k = j := by omega
      have heq := nm_eq (s[1]'h1) k hk10 HC.out
      go_wp2
      go_quiet (fail)
      go_wp2
      go_ret2
      exact .inr ⟨_, 2, _, HE.out, rfl, ownb_lit _ _ _ rfl, (below_dn (Below.refl _ _) _).alloc (Nat.le_refl _) _⟩
set_option maxRecDepth 20000 in
set_option maxHeartbeats 4000000 in
theorem esc_oct (s : ByteArray) (by_ : Bool) (w : World) (hs : s.size ≤ 1000000) (h1 : 1 < s.size) (hn : ∀ j, j < 10 → nmL.getD j 0 ≠ s[1]'h1) (n1 : s[1]'h1 ≠ 120) (n2 : s[1]'h1 ≠ 117) (n3 : s[1]'h1 ≠ 85) :
    Calls Tryz.prog 76 #[.string s, .bool by_] w (EscPost (octA by_ s.data.toList) w) := by
  have g1 : (1 : Int) < (s.size : Int) := by omega
  have g0 : (0 : Int) ≤ 1 := by omega
  have key : ∀ m : UInt8, s[1]'h1 ≠ m → (((s[1]'h1).toNat : Int) == (m.toNat : Int)) = false := by
    intro m hm
    rw [beq_eq_false_iff_ne]
    exact fun e => hm (UInt8.toNat_inj.1 (Int.ofNat_inj.1 e))
  have e1 : (((s[1]'h1).toNat : Int) == 120) = false := key 120 n1
  have e2 : (((s[1]'h1).toNat : Int) == 117) = false := key 117 n2
  have e3 : (((s[1]'h1).toNat : Int) == 85) = false := key 85 n3
  have HN := Lib.hid hn
  clear key n1 n2 n3 hn
  go_enter Tryz.func76, Tryz.ntmps76
  go_wp2_with fail
  go_loopw [6] (fun iv wr => EscI w iv wr) (fun iv _ => 10 - (intOf iv).toNat)
  case atStart => exact ⟨0, 0, by omega, rfl, rfl⟩
  case round =>
    obtain ⟨k, d, hk, rfl, rfl⟩ := hrel
    by_cases hk10 : k < 10
    · have hne := nm_ne1 (s[1]'h1) k hk10 (HN.out k hk10)
      have hk0 : (0 : Int) ≤ (k : Int) := by omega
      have hk1 : (k : Int) < 10 := by omega
      go_wp2
      go_quiet (fail)
      go_wp2
      go_roundw
      case rel => exact ⟨k + 1, _, by omega, by go_num, rfl⟩
      case measure => simp [intOf]; omega
    · have hk11 : (10 : Int) ≤ (k : Int) := by omega
      clear hk10
      obtain ⟨w1, hw1⟩ : ∃ w1, w1 = w.drewN d := ⟨_, rfl⟩
      have HB0 : Hid (Below w.heap.size w w1) := by rw [hw1]; exact below_dn (Below.refl _ _) _
      rw [← hw1]
      clear hw1
      go_wp2_with fail
      refine (octal_esc s by_ _ (by omega) hs).mono ?_
      rintro e w' (⟨ha, rfl, hb⟩ | ⟨p, kk, v, ha, rfl, ho, hb⟩)
      · have HA := Lib.hid ha
        have HB := Lib.hid (HB0.out.trans (hb.mono HB0.out.size))
        clear ha hb
        go_wp2
        go_ret2
        exact .inl ⟨HA.out, rfl, HB.out⟩
      · have HA := Lib.hid ha
        have HB := Lib.hid (HB0.out.trans (hb.mono HB0.out.size))
        have HO := Lib.hid (own_base ho HB0.out.size)
        clear ha hb ho
        go_wp2
        go_ret2
        exact .inr ⟨p, kk, v, HA.out, rfl, HO.out, HB.out⟩
theorem esc_short (s : ByteArray) (by_ : Bool) (w : World) (h1 : s.size < 2) :
    Calls Tryz.prog 76 #[.string s, .bool by_] w (EscPost (esc by_ s.data.toList) w) := by
  have HE : Hid (esc by_ s.data.toList = none) := by
    unfold Hid
    have hl : s.data.toList.length = s.size := by simp
    match hL : s.data.toList with
    | [] => rfl
    | [_] => rfl
    | a :: b :: t => rw [hL] at hl; simp at hl; omega
  go_enter Tryz.func76, Tryz.ntmps76
  go_wp2
  go_ret2
  exact .inl ⟨HE.out, rfl, Below.refl _ _⟩
/-- escape, at plain texts. -/
theorem esc_any (s : ByteArray) (by_ : Bool) (w : World) (hs : s.size ≤ 1000000) (hp : PlainL s.data.toList) :
    Calls Tryz.prog 76 #[.string s, .bool by_] w (EscPost (esc by_ s.data.toList) w) := by
  by_cases h1 : 1 < s.size
  · by_cases hn : ∀ j, j < 10 → nmL.getD j 0 ≠ s[1]'h1
    · have e := esc_split by_ s[0] s[1] (s.data.toList.drop 2) (one_none hn)
      rw [← two_of s h1] at e
      rw [e]
      by_cases c1 : s[1]'h1 = 120
      · rw [if_pos c1]; exact esc_at120 s by_ w hs h1 hp c1
      rw [if_neg c1]
      by_cases c2 : s[1]'h1 = 117
      · rw [if_pos c2]; exact esc_at117 s by_ w hs h1 hp c2
      rw [if_neg c2]
      by_cases c3 : s[1]'h1 = 85
      · rw [if_pos c3]; exact esc_at85 s by_ w hs h1 hp c3
      rw [if_neg c3]
      exact esc_oct s by_ w hs h1 hn c1 c2 c3
    · simp only [Classical.not_forall] at hn
      obtain ⟨j, hj, hc⟩ := hn
      exact esc_one s by_ w hs h1 j hj (Classical.not_not.1 hc)
  · exact esc_short s by_ w (by omega)
end Go.Proofs.YtghendoiohfolaaGreatDoor
