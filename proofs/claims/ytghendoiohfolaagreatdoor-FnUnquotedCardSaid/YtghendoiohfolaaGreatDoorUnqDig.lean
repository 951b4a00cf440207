/- The reference's place of a sign among the sixteen digits; the bytes of a number; octal digits. -/
import Derived.Test.YtghendoiohfolaaGreatDoorShelf
import Derived.Test.YtghendoiohfolaaGreatDoorStr
import Derived.Test.YtghendoiohfolaaGreatDoorOwn
import Derived.Test.YtghendoiohfolaaGreatDoorUnqBody
import Derived.Laws.OwnMore
import Derived.Shelf.Utf8.AppendRunePlain
import Derived.WalkSpells
import Derived.WalkLawsBesides
namespace Go.Proofs.YtghendoiohfolaaGreatDoor
set_option linter.unusedSimpArgs false
set_option linter.unusedVariables false
set_option linter.unnecessarySimpa false
open Go.RowKit
/-- The sixteen, as a text. -/
def hexB : ByteArray := ⟨#[48, 49, 50, 51, 52, 53, 54, 55, 56, 57, 97, 98, 99, 100, 101, 102]⟩
theorem hex_cut (k : Nat) (c : UInt8) (hk : k < 16) : ((hexB.extract k (k + 1)).toList == (ByteArray.mk #[c]).toList) = decide (sixteen.getD k 0 = c) := by
  have h : ∀ k : Fin 16, hexB.extract k.1 (k.1 + 1) = ByteArray.mk #[sixteen.getD k.1 0] := by decide +kernel
  rw [h ⟨k, hk⟩, Lib.toList_data, Lib.toList_data, Bool.eq_iff_iff]
  simp
def HexOf (c : UInt8) (r : Int) : Prop := (∃ j : Nat, j < 16 ∧ sixteen.getD j 0 = c ∧ r = j) ∨ ((∀ j, j < 16 → sixteen.getD j 0 ≠ c) ∧ r = -1)
def HexPost (c : UInt8) (w : World) (e : Ending) (w' : World) : Prop := ∃ r : Int, HexOf c r ∧ e = .returned (.int .i64 r) ∧ w = w'
set_option maxHeartbeats 1000000 in
theorem place_hex (c : UInt8) (w : World) :
    Calls Tryz.prog 98 #[.string hexB, .string ⟨#[c]⟩] w (HexPost c w) := by
  obtain ⟨p, hp⟩ : ∃ p : ByteArray, p = ⟨#[c]⟩ := ⟨_, rfl⟩
  obtain ⟨n9, hn9⟩ : ∃ q : ByteArray, q = hexB := ⟨_, rfl⟩
  have hps : p.size = 1 := by rw [hp]; rfl
  have hns : n9.size = 16 := by rw [hn9]; rfl
  rw [← hp, ← hn9]
  have HP := Lib.hid hp
  have HN := Lib.hid hn9
  clear hp hn9
  go_enter Tryz.func98, Tryz.ntmps98
  go_wp2_with fail
  go_loop [5] (fun i => ∃ k : Nat, k ≤ 16 ∧ i = .int .i64 k ∧ Hid (∀ j, j < k → sixteen.getD j 0 ≠ c)) (fun i => 16 - (intOf i).toNat)
  case atStart => exact ⟨0, by omega, rfl, fun j hj => by omega⟩
  case round =>
    obtain ⟨k, hk, rfl, hnot⟩ := hrel
    by_cases hlt : k < 16
    · have hcut := hex_cut k c hlt
      rw [← HP.out, ← HN.out] at hcut
      have hle : decide ((k : Int) + 1 ≤ 16) = true := by simp; omega
      by_cases he : sixteen.getD k 0 = c
      · have ht : ((n9.extract k (k + 1)).toList == p.toList) = true := by rw [hcut]; simpa using he
        clear hcut
        have HE := Lib.hid he
        clear he
        go_wp2
        go_ret
        exact ⟨(k : Int), .inl ⟨k, hlt, HE.out, rfl⟩, rfl, rfl⟩
      · have ht : ((n9.extract k (k + 1)).toList == p.toList) = false := by rw [hcut]; simpa using he
        clear hcut
        have HE := Lib.hid he
        clear he
        go_wp2
        go_round
        case rel => exact ⟨k + 1, by omega, by go_num, fun j hj => by
          by_cases hjk : j < k
          · exact hnot.out j hjk
          · obtain rfl : j = k := by omega
            exact HE.out⟩
        case measure => simp [intOf]; omega
    · obtain rfl : k = 16 := by omega
      go_wp2
      go_ret
      exact ⟨-1, .inr ⟨hnot.out, rfl⟩, rfl, rfl⟩
/-- What escape, octal and coded answer. -/
def EscPost (a : Option (List UInt8 × Nat)) (w : World) (e : Ending) (w' : World) : Prop :=
  (a = none ∧ e = .returned (.tuple #[.slice none 0 0, .int .i64 0]) ∧ Below w.heap.size w w') ∨
  (∃ p k v, a = some (p, k) ∧ e = .returned (.tuple #[v, .int .i64 (k : Nat)]) ∧ OwnB 5 w' w.heap.size v p ∧ Below w.heap.size w w')
theorem runeCells_eq (r : Int) (h0 : 0 ≤ r) (h1 : r ≤ 1114111) : Lib.runeCells r = (Lib.encodeRune r).map fun c => Value.int .u8 (c.toNat : Int) := by
  have h : ∀ x ∈ Lib.encodeRuneZ r, 0 ≤ x ∧ x < 256 := by
    intro x hx
    unfold Lib.encodeRuneZ at hx
    split at hx
    · simp at hx; omega
    split at hx
    · simp at hx; omega
    split at hx
    · simp at hx; omega
    split at hx
    · simp at hx; omega
    · simp at hx; omega
  unfold Lib.runeCells Lib.encodeRune
  rw [List.map_map]
  refine List.map_congr_left fun x hx => ?_
  have := h x hx
  simp only [Function.comp]
  have e : x.toNat.toUInt8.toNat = x.toNat := by simp; omega
  rw [e]
  congr 1
  omega
theorem app_rune (r : Int) (h0 : 0 ≤ r) (h1 : r ≤ 1114111) (w : World) :
    Calls Tryz.prog 57 #[.slice none 0 0, .int .i32 r] w fun e w' => ∃ v, e = .returned v ∧ OwnB 5 w' w.heap.size v (Lib.encodeRune r) ∧ Below w.heap.size w w' := by
  refine (Any.utf8_AppendRune_plain Tryz.lays242 (by kernel_rfl) w.heap.size (.slice none 0 0) 0 [] r (by omega) (by omega) w ?_ (by omega) (Nat.le_refl _)).mono ?_
  · exact ⟨rfl, .inl ⟨rfl, rfl⟩⟩
  · rintro e w' ⟨v', rfl, hown, o, hg⟩
    refine ⟨v', rfl, ?_, ?_⟩
    · have h := hown
      rw [List.nil_append, runeCells_eq r h0 h1, List.length_map, Nat.zero_add] at h
      exact h
    · exact ((Below.refl w.heap.size w).alloc (Nat.le_refl _) o).grown hg (by simp) (fun k hk => by simp [Value.ownBlock] at hk)
theorem ownb_lit (w : World) (c : UInt8) (z : Int) (hz : z = (c.toNat : Int)) : OwnB 5 (w.alloc (.cells #[.int .u8 z] 5)) w.heap.size (.slice (some ⟨w.heap.size, 0, none⟩) 1 1) [c] := by
  subst hz
  refine ⟨by simp, .inr ⟨w.heap.size, 1, #[.int .u8 (c.toNat : Int)], by simp, Nat.le_refl _, heap_alloc_new w _, by simp, by unfold maxLen; omega, by simp, ?_⟩⟩
  simp
set_option maxHeartbeats 2000000 in
theorem coded_esc (n size : Nat) (one by_ : Bool) (w : World) (hn : n < 4294967296) :
    Calls Tryz.prog 99 #[.int .i64 n, .bool one, .bool by_, .int .i64 size] w (EscPost (codedP n one by_ size) w) := by
  cases one with
  | true =>
    by_cases h1 : 255 < n
    · have hd : decide ((255 : Int) < (n : Int)) = true := by simp; omega
      go_enter Tryz.func99, Tryz.ntmps99
      go_wp2
      go_ret2
      exact .inl ⟨by simp [codedP, h1], rfl, Below.refl _ _⟩
    · have hd : decide ((255 : Int) < (n : Int)) = false := by simp; omega
      have hz : IntKind.u8.wrap (n : Int) = (n : Int) := IntWalk.u8_in _ (by omega)
      by_cases h2 : 127 < n
      · have hd2 : decide ((127 : Int) < (n : Int)) = true := by simp; omega
        cases by_ with
        | true =>
          go_enter Tryz.func99, Tryz.ntmps99
          go_wp2
          go_ret2
          exact .inr ⟨[n.toUInt8], size, _, by simp [codedP, h1], rfl, ownb_lit w _ _ (by simp; omega), (Below.refl _ _).alloc (Nat.le_refl _) _⟩
        | false =>
          go_enter Tryz.func99, Tryz.ntmps99
          go_wp2
          go_ret2
          exact .inl ⟨by simp [codedP, h1, h2], rfl, Below.refl _ _⟩
      · have hd2 : decide ((127 : Int) < (n : Int)) = false := by simp; omega
        go_enter Tryz.func99, Tryz.ntmps99
        go_wp2
        go_ret2
        exact .inr ⟨[n.toUInt8], size, _, by simp [codedP, h1, h2], rfl, ownb_lit w _ _ (by simp; omega), (Below.refl _ _).alloc (Nat.le_refl _) _⟩
  | false =>
    by_cases h1 : 1114111 < n
    · have hd : decide ((1114111 : Int) < (n : Int)) = true := by simp; omega
      go_enter Tryz.func99, Tryz.ntmps99
      go_wp2
      go_ret2
      exact .inl ⟨by simp [codedP, h1], rfl, Below.refl _ _⟩
    · have hd : decide ((1114111 : Int) < (n : Int)) = false := by simp; omega
      have hz : IntKind.i32.wrap (n : Int) = (n : Int) := IntWalk.i32_in _ (by omega)
      by_cases h2 : 55296 ≤ n
      · have hd2 : decide ((55296 : Int) ≤ (n : Int)) = true := by simp; omega
        by_cases h3 : n < 57344
        · have hd3 : decide ((n : Int) < (57344 : Int)) = true := by simp; omega
          go_enter Tryz.func99, Tryz.ntmps99
          go_wp2
          go_ret2
          exact .inl ⟨by simp [codedP, h1, h2, h3], rfl, Below.refl _ _⟩
        · have hd3 : decide ((n : Int) < (57344 : Int)) = false := by simp; omega
          go_enter Tryz.func99, Tryz.ntmps99
          go_wp2_with fail
          refine (app_rune n (by omega) (by omega) _).mono ?_
          rintro e w' ⟨v, rfl, hown, hb⟩
          go_wp2
          go_ret2
          exact .inr ⟨_, size, v, by simp [codedP, h1, h2, h3], rfl, hown, hb⟩
      · have hd2 : decide ((55296 : Int) ≤ (n : Int)) = false := by simp; omega
        go_enter Tryz.func99, Tryz.ntmps99
        go_wp2_with fail
        refine (app_rune n (by omega) (by omega) _).mono ?_
        rintro e w' ⟨v, rfl, hown, hb⟩
        go_wp2
        go_ret2
        exact .inr ⟨_, size, v, by simp [codedP, h1, h2], rfl, hown, hb⟩
end Go.Proofs.YtghendoiohfolaaGreatDoor
