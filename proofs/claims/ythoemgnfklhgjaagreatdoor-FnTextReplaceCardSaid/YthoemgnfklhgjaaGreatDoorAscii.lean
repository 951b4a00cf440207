/- The reference's text below 128, of at most 60 bytes. -/
import Derived.Test.YthoemgnfklhgjaaGreatDoorStr
import Derived.Test.YthoemgnfklhgjaaGreatDoorOwn
import Derived.Test.YthoemgnfklhgjaaGreatDoorRows
import Derived.Test.YthoemgnfklhgjaaGreatDoorChecked
import Derived.Laws.OwnMore
import Derived.IntWalk
namespace Go.Proofs.YthoemgnfklhgjaaGreatDoor
open Go.RowKit
def AsciiT (t : ByteArray) : Prop := t.size ≤ 60 ∧ ∀ i (h : i < t.size), (t[i]'h).toNat < 128
def AsciiPost (w : World) (e : Ending) (w' : World) : Prop := ∃ t, e = .returned (.string t) ∧ AsciiT t ∧ Below w.heap.size w w'
def and127 (c : UInt8) : UInt8 := c &&& 127
theorem and127_lt (c : UInt8) : (and127 c).toNat < 128 := by
  have h : ∀ c : Fin 256, (and127 (UInt8.ofNat c.1)).toNat < 128 := by decide +kernel
  have := h ⟨c.toNat, UInt8.toNat_lt c⟩
  simpa using this
theorem bits127 (c : UInt8) : bits .and .u8 (c.toNat : Int) 127 = ((and127 c).toNat : Int) := by
  have h : ∀ c : Fin 256, bits .and .u8 (c.1 : Int) 127 = ((and127 (UInt8.ofNat c.1)).toNat : Int) := by decide +kernel
  have := h ⟨c.toNat, UInt8.toNat_lt c⟩
  simpa using this
/-- Cells of block g that hold the bytes l and may be written. -/
structure BRow (w : World) (g : Nat) (l : List UInt8) : Prop where
  lt : g < w.heap.size
  cell : ∀ j (h : j < l.length), w.cell? ⟨g, j, none⟩ = some (.int .u8 ((l[j]'h).toNat : Int))
  free : ∀ j, j < l.length → w.frozen? ⟨g, j, none⟩ = false
theorem BRow.put {w : World} {g : Nat} {l : List UInt8} (h : BRow w g l) (k : Nat) (hk : k < l.length) (c : UInt8) : BRow (w.setCell ⟨g, k, none⟩ (.int .u8 (c.toNat : Int))) g (l.set k c) := by
  refine ⟨by simpa using h.lt, fun j hj => ?_, fun j hj => ?_⟩
  · have hj' : j < l.length := by simpa using hj
    by_cases e : k = j
    · subst e
      rw [World.cell?_setCell_same _ _ _ (h.cell k hj')]
      simp
    · rw [World.cell?_setCell_other _ _ _ _ (by intro e2; injection e2 with _ e3; exact e e3), h.cell j hj']
      simp [List.getElem_set_ne e]
  · have hj' : j < l.length := by simpa using hj
    simpa using h.free j hj'
/-- []byte(s). -/
theorem bytes_made {P : Program} (src dst e : TypeId) (s : ByteArray) (w : World) (hs : P.underlying src = some .string) (hd : P.underlying dst = some (.slice e)) (he : P.underlying e = some (.int .u8)) :
    ∃ W1 cap, (convert src dst (.string s)).run P w = .ok (.slice (some ⟨w.heap.size, 0, none⟩) s.size cap) W1 ∧ BRow W1 w.heap.size s.data.toList ∧ Below w.heap.size w W1 := by
  refine ⟨_, _, run_bytes_of_string w src dst e s hs hd he, ⟨by simp, fun j hj => ?_, fun j hj => ?_⟩, ?_⟩
  · have h := World.cell?_alloc_mark w.drew (bytesRow s (grownCap w s.size 0 e)) e ((bytesRow s (grownCap w s.size 0 e)).size, (bytesRow s (grownCap w s.size 0 e)).size + 1) j
    have hj' : j < s.data.size := by rw [Array.length_toList] at hj; exact hj
    refine h.trans ?_
    unfold bytesRow
    rw [Array.getElem?_append_left (by simpa using hj'), Array.getElem?_map, Array.getElem?_eq_getElem hj']
    simp
  · have h := World.frozen?_alloc_mark w.drew (bytesRow s (grownCap w s.size 0 e)) e (bytesRow s (grownCap w s.size 0 e)).size ((bytesRow s (grownCap w s.size 0 e)).size + 1) j
    have hj' : j < s.data.size := by rw [Array.length_toList] at hj; exact hj
    refine h.trans ?_
    have : j < (bytesRow s (grownCap w s.size 0 e)).size := by
      unfold bytesRow
      rw [Array.size_append, Array.size_map]
      omega
    simp [Nat.not_le.2 this]
  · exact ((Below.refl _ w).drew).alloc (by simp) _
set_option maxRecDepth 20000 in
set_option maxHeartbeats 1600000 in
theorem ascii_at (s u : ByteArray) (hs : s.size ≤ maxLen) (hu : (s.size ≤ 60 ∧ u = s) ∨ (60 < s.size ∧ u = s.extract 0 60)) (w : World) :
    Calls Tryz.prog 4 #[.string s] w (AsciiPost w) := by
  unfold maxLen at hs
  obtain ⟨W1, cap, hconv, hrow, hb⟩ := bytes_made (P := Tryz.prog) 9 25 5 u w Tryz.underlying9 Tryz.underlying25 Tryz.underlying5
  have hu60 : u.size ≤ 60 := by
    rcases hu with ⟨h, rfl⟩ | ⟨h, rfl⟩
    · exact h
    · simp; omega
  have HU := Lib.hid hu60
  have HROW := Lib.hid hrow
  obtain ⟨n, hn⟩ : ∃ n, n = u.size := ⟨_, rfl⟩
  rw [← hn] at hconv
  have hn60 : n ≤ 60 := by omega
  have HN := Lib.hid hn
  clear hu60 hrow hn
  rcases hu with ⟨h, rfl⟩ | ⟨h, rfl⟩
  all_goals
    go_enter Tryz.func4, Tryz.ntmps4
    go_wp2_with fail
    clear hconv h
    go_loopw [13] (fun i wr => ∃ (k : Nat) (l : List UInt8), i = .int .i64 k ∧ k ≤ n ∧ Hid (l.length = n) ∧ Hid (BRow wr w.heap.size l) ∧ Hid (∀ j (hj : j < l.length), j < k → (l[j]'hj).toNat < 128) ∧ Below w.heap.size w wr)
      (fun i _ => n - (intOf i).toNat)
    case atStart => exact ⟨0, _, rfl, Nat.zero_le _, by unfold Hid; rw [HN.out]; simp, HROW.out, fun j hj h => by omega, hb⟩
    case round =>
      obtain ⟨k, l, rfl, hk, hln, hrow, hlt, hbw⟩ := hrel
      by_cases hkn : k < n
      · have hkl : k < l.length := by rw [hln.out]; exact hkn
        have hd : decide ((k : Int) < (n : Int)) = true := by simp; omega
        have hc := hrow.out.cell k hkl
        have hf := hrow.out.free k hkl
        have hcl : decide (w.heap.size < wr.heap.size) = true := by simp; exact hrow.out.lt
        have hand := bits127 (l[k]'hkl)
        go_wp2
        go_roundw
        case rel =>
          refine ⟨k + 1, l.set k (and127 (l[k]'hkl)), by go_num, by omega, by simpa [Hid] using hln.out, hrow.out.put k hkl _, fun j hj h => ?_, hbw.setCell (by simp) _⟩
          by_cases e : k = j
          · subst e; simp [and127_lt]
          · rw [List.getElem_set_ne e]; exact hlt.out j (by simpa using hj) (by omega)
        case measure => simp [intOf]; omega
      · have hd : decide ((k : Int) < (n : Int)) = false := by simp; omega
        have hcb := run_convert_bytes_back (P := Tryz.prog) wr 25 9 5 ⟨w.heap.size, 0, none⟩ cap l Tryz.underlying25 Tryz.underlying5 Tryz.underlying9 (fun j hj => by rw [Addr.add_lit]; simpa using hrow.out.cell j hj)
        rw [hln.out] at hcb
        go_wp2
        go_ret
        refine ⟨⟨l.toArray⟩, rfl, ⟨?_, fun i hi => ?_⟩, hbw⟩
        · have : (ByteArray.mk l.toArray).size = l.length := by simp [ByteArray.size]
          rw [this, hln.out, HN.out]; exact HU.out
        · have hil : i < l.length := by simpa [ByteArray.size] using hi
          exact hlt.out i hil (by have := hln.out; omega)
theorem ascii_any (s : ByteArray) (hs : s.size ≤ maxLen) (w : World) :
    Calls Tryz.prog 4 #[.string s] w (AsciiPost w) := by
  by_cases h : s.size ≤ 60
  · exact ascii_at s s hs (.inl ⟨h, rfl⟩) w
  · exact ascii_at s _ hs (.inr ⟨by omega, rfl⟩) w
end Go.Proofs.YthoemgnfklhgjaaGreatDoor
