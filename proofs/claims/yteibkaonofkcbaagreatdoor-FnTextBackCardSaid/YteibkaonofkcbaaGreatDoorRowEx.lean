/- The first so many texts of a row put together in its first place, the rest moved down behind it. -/
import Derived.Test.YteibkaonofkcbaaGreatDoorTxts
import Derived.Test.YteibkaonofkcbaaGreatDoorOwn2
namespace Go.Proofs.YteibkaonofkcbaaGreatDoor
open Go.RowKit
theorem joinL_app (p : List UInt8) (y : ByteArray) (r : List ByteArray) : ∀ (l : List ByteArray), l ≠ [] → joinL p (l ++ y :: r) = joinL p l ++ (p ++ joinL p (y :: r))
  | [], h => absurd rfl h
  | [x], _ => rfl
  | x :: z :: t, _ => by
    have ih := joinL_app p y r (z :: t) (by simp)
    simp only [List.cons_append] at ih ⊢
    rw [show joinL p (x :: z :: (t ++ y :: r)) = x.data.toList ++ (p ++ joinL p (z :: (t ++ y :: r))) from rfl, ih]
    rw [show joinL p (x :: z :: t) = x.data.toList ++ (p ++ joinL p (z :: t)) from rfl]
    simp [List.append_assoc]
theorem joinL_pre (p : List UInt8) (l r : List ByteArray) (h : l ≠ []) : ∃ z, joinL p (l ++ r) = joinL p l ++ z := by
  cases r with
  | nil => exact ⟨[], by simp⟩
  | cons y r => exact ⟨_, joinL_app p y r l h⟩
theorem joinL_take (p : List UInt8) (ts : List ByteArray) (i : Nat) : (joinL p (ts.take i)).length ≤ (joinL p ts).length := by
  by_cases h : ts.take i = []
  · rw [h]; exact Nat.zero_le _
  · obtain ⟨z, hz⟩ := joinL_pre p (ts.take i) (ts.drop i) h
    rw [List.take_append_drop] at hz
    rw [hz, List.length_append]
    omega
theorem joinL_cut (p : List UInt8) (ts : List ByteArray) (e : Nat) (h1 : 1 ≤ e) (h2 : e ≤ ts.length) : joinL p ((⟨(joinL p (ts.take e)).toArray⟩ : ByteArray) :: ts.drop e) = joinL p ts := by
  have ht : ts.take e ≠ [] := fun h => by
    have hl : (ts.take e).length = e := by rw [List.length_take]; omega
    rw [h] at hl
    simp at hl
    omega
  have hs := List.take_append_drop e ts
  cases hd : ts.drop e with
  | nil =>
    rw [hd, List.append_nil] at hs
    rw [hs]
    simp [joinL]
  | cons y r =>
    rw [hd] at hs
    rw [show joinL p ((⟨(joinL p (ts.take e)).toArray⟩ : ByteArray) :: y :: r) = (joinL p (ts.take e)).toArray.toList ++ (p ++ joinL p (y :: r)) from rfl]
    rw [← joinL_app p y r _ ht, hs]
theorem RowT.cut {w : World} {B g cap e : Nat} {ts : List ByteArray} (h : RowT w B (.slice (some ⟨g, 0, none⟩) ts.length cap) ts) (he : e ≤ ts.length) : RowT w B (.slice (some ⟨g, 0, none⟩) (ts.take e).length cap) (ts.take e) := by
  refine ⟨by simp, ?_⟩
  rcases h.2 with ⟨h0, _⟩ | ⟨g', cap', cur, hv, hb, hh, h1, h2, h3, h4⟩
  · simp at h0
  · injection hv with e1 e2 e3
    injection e1 with e1
    injection e1 with e1
    subst e1; subst e3
    have hl : (ts.take e).length = e := by simp; omega
    refine .inr ⟨g, cap, cur, rfl, hb, hh, by omega, h2, h3, ?_⟩
    rw [hl, Nat.mul_one]
    rw [Nat.mul_one] at h4
    have := congrArg (List.take e) h4
    rw [List.take_take, Nat.min_eq_left he, ← List.map_take] at this
    exact this
theorem row_ex {w : World} {B g cap e : Nat} {ts : List ByteArray} (J : ByteArray) (h : RowT w B (.slice (some ⟨g, 0, none⟩) ts.length cap) ts) (h1 : 1 ≤ e) (he : e ≤ ts.length) :
    (w.setCell ⟨g, 0, none⟩ (.string J)).ownsRow B 9 1 (.slice (some ⟨g, 0, none⟩) 1 cap) 1 [strV J] ∧
    (∀ j u, ((ts.drop e).map strV)[j]? = some u → (w.setCell ⟨g, 0, none⟩ (.string J)).cell? ⟨g, e + j, none⟩ = some u) ∧ B ≤ g ∧ ts.length ≤ cap ∧ (∃ u, w.cell? ⟨g, 0, none⟩ = some u) ∧ w.frozen? ⟨g, 0, none⟩ = false := by
  rcases h.2 with ⟨h0, _⟩ | ⟨g', cap', cur, hv, hb, hh, h1', h2, h3, h4⟩
  · simp at h0
  · injection hv with e1 e2 e3
    injection e1 with e1
    injection e1 with e1
    subst e1; subst e3
    have hk : Blk w g 9 cur := hh
    have hp := hk.put 0 (.string J)
    refine ⟨⟨rfl, .inr ⟨g, cap, _, rfl, hb, hp, by omega, h2, by simpa using h3, ?_⟩⟩, ?_, hb, h1', ?_, hk.frozen 0⟩
    · have hn : 0 < cur.size := by omega
      rw [Array.toList_setIfInBounds]
      rcases hc : cur.toList with _ | ⟨x, l⟩
      · have hl : cur.toList.length = 0 := by rw [hc]; rfl
        rw [Array.length_toList] at hl
        omega
      · rfl
    · intro j u hu
      rw [hp.cell]
      rw [Array.getElem?_setIfInBounds_ne (by omega), ← Array.getElem?_toList]
      rw [List.getElem?_map, List.getElem?_drop] at hu
      have h5 := congrArg (fun l => l[e + j]?) h4
      simp only [Nat.mul_one] at h5
      rw [List.getElem?_map] at h5
      have hlt : e + j < ts.length := by
        rcases Nat.lt_or_ge (e + j) ts.length with h | h
        · exact h
        · rw [List.getElem?_eq_none h] at hu; simp at hu
      rw [List.getElem?_take_of_lt hlt] at h5
      rw [h5]; exact hu
    · refine ⟨cur[0]'(by omega), ?_⟩
      rw [hk.cell]
      exact Array.getElem?_eq_getElem (by omega)
theorem str_hi (g n k e : Nat) (he : e ≤ k) (w : World) : (Instr.slice 33 (.slice (some ⟨g, 0, none⟩) n k) none (some (.int .i64 (e : Int))) none).run Tryz.prog w = .ok (.slice (some ⟨g, 0, none⟩) e k) w := by
  have hs : ∀ w, (sizeOf 9).run Tryz.prog w = .ok 1 w := fun w => by kernel_rfl
  simp [Instr.slice, run_underlying Tryz.underlying33, Instr.sliceBounds, Instr.sliceBound, asIntOf, hs, he, Addr.add_lit]
theorem str_lo (g n k e : Nat) (he : e ≤ n) (hk : n ≤ k) : ∃ o k', (0 < n - e → o = e) ∧ ∀ w : World, (Instr.slice 33 (.slice (some ⟨g, 0, none⟩) n k) (some (.int .i64 (e : Int))) none none).run Tryz.prog w = .ok (.slice (some ⟨g, o, none⟩) (n - e) k') w := by
  have hs : ∀ w, (sizeOf 9).run Tryz.prog w = .ok 1 w := fun w => by kernel_rfl
  by_cases h : e = k
  · subst h
    obtain rfl : e = n := by omega
    exact ⟨0, 0, fun h => by omega, fun w => by simp [Instr.slice, run_underlying Tryz.underlying33, Instr.sliceBounds, Instr.sliceBound, asIntOf, hs]⟩
  · exact ⟨e, k - e, fun _ => rfl, fun w => by
      have h1 : e ≤ k := by omega
      have h2 : ¬ k = e := fun x => h x.symm
      simp [Instr.slice, run_underlying Tryz.underlying33, Instr.sliceBounds, Instr.sliceBound, asIntOf, h1, h, h2, hs, he, hk, Addr.add_lit]⟩
end Go.Proofs.YteibkaonofkcbaaGreatDoor
