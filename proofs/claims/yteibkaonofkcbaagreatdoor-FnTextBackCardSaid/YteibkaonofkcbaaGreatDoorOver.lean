/- Whether a part can lie over itself: some answer (the law needs no more); a row of texts joined; a row of texts as values. -/
import Derived.Test.YteibkaonofkcbaaGreatDoorTxts
import Derived.Test.YteibkaonofkcbaaGreatDoorShelf
import Derived.Deep.LoopGhost
import Derived.RegionTactic
import Derived.Deep.DeepCutAuto
namespace Go.Proofs.YteibkaonofkcbaaGreatDoor
open Go.RowKit
def OverPost (w : World) (e : Ending) (w' : World) : Prop := ∃ b, e = .returned (.bool b) ∧ Below w.heap.size w w'
set_option maxRecDepth 20000 in
set_option maxHeartbeats 4000000 in
theorem over_any (s : ByteArray) (w : World) (hs : s.size ≤ 1000) : Calls Tryz.prog 4 #[.string s] w (OverPost w) := by
  go_enter Tryz.func4, Tryz.ntmps4
  go_wp2_with fail
  go_loopg [3] s.size (fun k iv wr => ∃ i : Nat, iv = .int .i64 (i : Int) ∧ 1 ≤ i ∧ i ≤ 1001 ∧ s.size + 1 = k + i ∧ Hid (Below w.heap.size w wr))
  case atStart => exact ⟨1, rfl, Nat.le_refl _, by omega, rfl, Below.refl _ _⟩
  case round =>
    obtain ⟨i, rfl, hi1, hi2, hk, hbel⟩ := hrel
    by_cases h : i < s.size
    · have hd : decide ((i : Int) < (s.size : Int)) = true := by simp; omega
      have h0 : (0 : Int) ≤ (i : Int) := by omega
      have h1 : (i : Int) ≤ (s.size : Int) := by omega
      obtain ⟨j, hj⟩ : ∃ j : Nat, (s.size : Int) - (i : Int) = (j : Int) := ⟨s.size - i, by omega⟩
      have hi3 : i ≤ s.size := by omega
      have hjs : (j : Int) ≤ (s.size : Int) := by omega
      have hjs2 : j ≤ s.size := by omega
      have HK := Lib.hid hk
      clear hk
      cases he : ((s.extract 0 i).toList == (s.extract j s.size).toList)
      · go_upto_region 4 with fail
        go_region
        all_goals
          go_wp2_with fail
          go_roundg (s.size - i)
          case measure => have := HK.out; omega
          case rel => exact ⟨i + 1, by go_num, by omega, by omega, by omega, hbel.out.drew⟩
      · go_upto_region 4 with fail
        go_region
        all_goals
          go_wp2
          go_ret
          exact ⟨true, rfl, hbel.out.drew⟩
    · have hd : decide ((i : Int) < (s.size : Int)) = false := by simp; omega
      go_wp2
      go_ret
      exact ⟨false, rfl, hbel.out⟩
theorem lib_join (p : List UInt8) : ∀ ts : List ByteArray, Lib.join (ts.map (·.data.toList)) p = joinL p ts
  | [] => rfl
  | [x] => by simp [Lib.join_one, joinL]
  | x :: y :: r => by
    have ih := lib_join p (y :: r)
    rw [List.map_cons, Lib.join_cons]
    rw [List.map_cons, Lib.join_cons] at ih
    rw [show joinL p (x :: y :: r) = x.data.toList ++ (p ++ joinL p (y :: r)) from rfl, ← ih]
    simp [Lib.joinTail]
theorem join_row (B : Nat) (v : Value) (ts : List ByteArray) (p : ByteArray) (w : World) (h : RowT w B v ts) (hn : ts.length ≤ 10000) (hl : (joinL p.data.toList ts).length ≤ 100000) :
    Calls Tryz.prog 37 #[v, .string p] w fun e w' => e = .returned (.string ⟨(joinL p.data.toList ts).toArray⟩) ∧ Below w.heap.size w w' := by
  rcases h.2 with ⟨rfl, h0⟩ | ⟨g, cap, cur, rfl, hb, hh, h1, h2, h3, _⟩
  · obtain rfl : ts = [] := List.eq_nil_of_length_eq_zero h0
    exact (Tryz.strings_Join_none none 0 p w).mono fun e w' ⟨he, hw⟩ => ⟨he, hw ▸ Below.refl _ _⟩
  · have hc : ∀ (j : Nat) x, ts[j]? = some x → w.cell? ⟨g, 0 + j, none⟩ = some (.string x) := fun j x hx => by
      have := (show w.ownsRow B 9 1 _ ts.length (ts.map strV) from h).cells (g := g) rfl j (strV x) (by rw [List.getElem?_map, hx]; rfl)
      rw [Addr.add_lit] at this
      exact this
    have hlt : g < w.heap.size := ((show w.ownsRow B 9 1 _ ts.length (ts.map strV) from h).lt g rfl).2
    have := Tryz.strings_Join g 0 cap ts p w hc hlt (by omega) (by omega) (by rw [lib_join]; omega)
    rw [lib_join] at this
    exact this
end Go.Proofs.YteibkaonofkcbaaGreatDoor
