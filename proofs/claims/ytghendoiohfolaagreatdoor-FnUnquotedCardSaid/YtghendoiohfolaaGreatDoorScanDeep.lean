/- The reference's scanner: is a text plain; are its tokens few. -/
import Derived.Test.YtghendoiohfolaaGreatDoorScanNext
import Derived.Test.YtghendoiohfolaaGreatDoorShelfU
import Derived.Test.YtghendoiohfolaaGreatDoorTabs
namespace Go.Proofs.YtghendoiohfolaaGreatDoor
set_option linter.unusedSimpArgs false
set_option linter.unusedVariables false
set_option linter.unnecessarySimpa false
open Go.RowKit
/-- A sign that a plain text may hold. -/
def okB (c : UInt8) : Bool := !((decide (c.toNat < 32) && !(c == 10) && !(c == 9)) || c == 127)
def plainB (l : List UInt8) : Bool := l.all okB
theorem okB_plain {c : UInt8} (h : okB c = true) : (32 ≤ c.toNat ∨ c.toNat = 9 ∨ c.toNat = 10) ∧ c.toNat ≠ 127 := by
  have key : ∀ k : Fin 256, okB (UInt8.ofNat k.1) = true → (32 ≤ (UInt8.ofNat k.1).toNat ∨ (UInt8.ofNat k.1).toNat = 9 ∨ (UInt8.ofNat k.1).toNat = 10) ∧ (UInt8.ofNat k.1).toNat ≠ 127 := by decide +kernel
  have := key ⟨c.toNat, c.toNat_lt⟩
  simp only [UInt8.ofNat_toNat] at this
  exact this h
theorem plainB_plain {l : List UInt8} (h : plainB l = true) : PlainL l := fun c hc => okB_plain (List.all_eq_true.1 h c hc)
theorem PlainL.sub {l m : List UInt8} (h : PlainL l) (hs : ∀ c ∈ m, c ∈ l) : PlainL m := fun c hc => h c (hs c hc)
theorem plainB_snoc {l : List UInt8} {c : UInt8} : plainB (l ++ [c]) = (plainB l && okB c) := by simp [plainB]
theorem okB_cases (c : UInt8) : (okB c = true ∧ (decide ((c.toNat : Int) < 32) = false ∨ ((c.toNat : Int) != 10) = false ∨ (((c.toNat : Int) != 10) = true ∧ ((c.toNat : Int) != 9) = false)) ∧ ((c.toNat : Int) == 127) = false) ∨
    (okB c = false ∧ ((decide ((c.toNat : Int) < 32) = true ∧ ((c.toNat : Int) != 10) = true ∧ ((c.toNat : Int) != 9) = true) ∨ (decide ((c.toNat : Int) < 32) = false ∧ ((c.toNat : Int) == 127) = true))) := by
  have key : ∀ k : Fin 256, (okB (UInt8.ofNat k.1) = true ∧ (decide (((UInt8.ofNat k.1).toNat : Int) < 32) = false ∨ (((UInt8.ofNat k.1).toNat : Int) != 10) = false ∨ ((((UInt8.ofNat k.1).toNat : Int) != 10) = true ∧ (((UInt8.ofNat k.1).toNat : Int) != 9) = false)) ∧ (((UInt8.ofNat k.1).toNat : Int) == 127) = false) ∨
    (okB (UInt8.ofNat k.1) = false ∧ ((decide (((UInt8.ofNat k.1).toNat : Int) < 32) = true ∧ (((UInt8.ofNat k.1).toNat : Int) != 10) = true ∧ (((UInt8.ofNat k.1).toNat : Int) != 9) = true) ∨ (decide (((UInt8.ofNat k.1).toNat : Int) < 32) = false ∧ (((UInt8.ofNat k.1).toNat : Int) == 127) = true))) := by decide +kernel
  have := key ⟨c.toNat, c.toNat_lt⟩
  simp only [UInt8.ofNat_toNat] at this
  exact this
def PlainPost (s : ByteArray) (w : World) (e : Ending) (w' : World) : Prop := e = .returned (.bool (plainB s.data.toList && Lib.validD s.data.toList)) ∧ Below w.heap.size w w'
set_option maxRecDepth 20000 in
set_option maxHeartbeats 4000000 in
theorem plain_any (s : ByteArray) (w : World) (hs : s.size ≤ 10000) (hT : Tabs w) :
    Calls Tryz.prog 12 #[.string s] w (PlainPost s w) := by
  have HV := Lib.hid (Any.utf8_ValidString Tryz.lays196 s w (by omega) hT)
  have HL : Hid (s.data.toList.length = s.size) := by unfold Hid; simp
  clear hT
  go_enter Tryz.func12, Tryz.ntmps12
  go_wp2_with fail
  go_loop [3] (fun iv => ∃ k : Nat, k ≤ s.size ∧ iv = .int .i64 k ∧ Hid (plainB (s.data.toList.take k) = true)) (fun iv => s.size - (intOf iv).toNat)
  case atStart => exact ⟨0, Nat.zero_le _, rfl, by simp [Hid, plainB]⟩
  case round =>
    obtain ⟨k, hk, rfl, hpl⟩ := hrel
    by_cases hlt : k < s.size
    · have hts := take_snoc s k hlt
      have hsn : plainB (s.data.toList.take (k + 1)) = okB s[k] := by rw [hts, plainB_snoc, hpl.out, Bool.true_and]
      have hsplit : s.data.toList = s.data.toList.take (k + 1) ++ s.data.toList.drop (k + 1) := (List.take_append_drop _ _).symm
      have hall : okB s[k] = false → plainB s.data.toList = false := by
        intro h
        rw [hsplit]
        unfold plainB at hsn ⊢
        rw [List.all_append, hsn, h, Bool.false_and]
      have HSN := Lib.hid hsn
      have HALL := Lib.hid hall
      rcases okB_cases s[k] with ⟨ho, hc, h127⟩ | ⟨ho, hc⟩
      · have HO := Lib.hid ho
        clear hts hsn hsplit hall ho
        rcases hc with hc | hc | ⟨hc, hc2⟩
        · go_wp2
          go_round
          case rel => exact ⟨k + 1, by omega, by go_num, HSN.out.trans HO.out⟩
          case measure => simp [intOf]; omega
        · by_cases h32 : decide (((s[k]).toNat : Int) < 32) = true
          · go_wp2
            go_round
            case rel => exact ⟨k + 1, by omega, by go_num, HSN.out.trans HO.out⟩
            case measure => simp [intOf]; omega
          · have h32' : decide (((s[k]).toNat : Int) < 32) = false := by simpa using h32
            clear h32
            go_wp2
            go_round
            case rel => exact ⟨k + 1, by omega, by go_num, HSN.out.trans HO.out⟩
            case measure => simp [intOf]; omega
        · by_cases h32 : decide (((s[k]).toNat : Int) < 32) = true
          · go_wp2
            go_round
            case rel => exact ⟨k + 1, by omega, by go_num, HSN.out.trans HO.out⟩
            case measure => simp [intOf]; omega
          · have h32' : decide (((s[k]).toNat : Int) < 32) = false := by simpa using h32
            clear h32
            go_wp2
            go_round
            case rel => exact ⟨k + 1, by omega, by go_num, HSN.out.trans HO.out⟩
            case measure => simp [intOf]; omega
      · have HF := Lib.hid (hall ho)
        clear hts hsn hsplit hall ho
        rcases hc with ⟨hc, hc2, hc3⟩ | ⟨hc, hc2⟩
        · go_wp2
          go_ret
          exact ⟨by rw [HF.out]; rfl, Below.refl _ _⟩
        · go_wp2
          go_ret
          exact ⟨by rw [HF.out]; rfl, Below.refl _ _⟩
    · have HF : Hid (plainB s.data.toList = true) := by
        have h := hpl.out
        rw [List.take_of_length_le (by rw [HL.out]; omega)] at h
        exact h
      go_wp2_with fail
      refine HV.out.mono ?_
      rintro e w1 ⟨rfl, hb⟩
      have HB := Lib.hid hb
      clear hb
      go_wp2
      go_ret
      exact ⟨by rw [HF.out]; rfl, HB.out⟩
theorem outs_cell {w : World} {B g n cap : Nat} {xs : List Value} (h : Outs w B (.slice (some ⟨g, 0, none⟩) n cap) n xs) (j : Nat) (u : Value) (hu : xs[j]? = some u) : w.cell? ⟨g, j, none⟩ = some u := by
  have := World.ownsRow.cells h (g := g) rfl j u hu
  rw [Addr.add_lit, Nat.zero_add] at this
  exact this
theorem outs_lt {w : World} {B g n cap : Nat} {xs : List Value} (h : Outs w B (.slice (some ⟨g, 0, none⟩) n cap) n xs) : g < w.heap.size := (World.ownsRow.lt h g rfl).2
theorem outs_form {w : World} {B n : Nat} {ov : Value} {xs : List Value} (h : Outs w B ov (n + 1) xs) : ∃ g cap, ov = .slice (some ⟨g, 0, none⟩) (n + 1) cap := by
  rcases h.2 with ⟨_, h0⟩ | ⟨g, cap, cur, rfl, _⟩
  · omega
  · exact ⟨g, cap, rfl⟩
end Go.Proofs.YtghendoiohfolaaGreatDoor
