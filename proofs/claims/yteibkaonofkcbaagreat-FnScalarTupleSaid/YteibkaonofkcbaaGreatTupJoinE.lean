/- Joined texts: Words, Norm. -/
import Derived.Test.YteibkaonofkcbaaGreatTupJoinD
set_option linter.unusedSimpArgs false
set_option linter.unusedVariables false
namespace Go.Proofs.YteibkaonofkcbaaGreat
open Go.RowKit
def wcells (l : List Nat) : List Value := l.map fun (x : Nat) => Value.int .u64 (x : Int)
@[simp] theorem wcells_len (l : List Nat) : (wcells l).length = l.length := by simp [wcells]
/-- v is a slice of words of its own, above B. -/
def OW (w : World) (B : Nat) (v : Value) (l : List Nat) : Prop := w.ownsRow B 158 1 v l.length (wcells l) ∧ ∀ x ∈ l, x < W64
theorem OW.form {w : World} {B : Nat} {v : Value} {l : List Nat} (h : OW w B v l) : (v = .slice none 0 0 ∧ l = []) ∨ ∃ g cap, v = .slice (some ⟨g, 0, none⟩) l.length cap ∧ B ≤ g ∧ g < w.heap.size ∧ l.length ≤ cap ∧ cap ≤ maxLen := by
  rcases h.1.2 with ⟨hv, h0⟩ | ⟨g, cap, cur, hv, hb, hh, h1, h2, _⟩
  · exact .inl ⟨hv, List.eq_nil_of_length_eq_zero h0⟩
  · exact .inr ⟨g, cap, hv, hb, (Array.getElem?_eq_some_iff.1 hh).1, h1, h2⟩
theorem OW.below {w w' : World} {B : Nat} {v : Value} {l : List Nat} (h : OW w B v l) (hb : Below w.heap.size w w') : OW w' B v l := ⟨own_below h.1 hb, h.2⟩
theorem OW.base {w : World} {B C : Nat} {v : Value} {l : List Nat} (h : OW w B v l) (hC : C ≤ B) : OW w C v l := by
  refine ⟨⟨h.1.1, ?_⟩, h.2⟩
  rcases h.1.2 with h0 | ⟨g, cap, cur, hv, hb, hrest⟩
  · exact .inl h0
  · exact .inr ⟨g, cap, cur, hv, Nat.le_trans hC hb, hrest⟩
theorem OW.only {w w' : World} {B : Nat} {S : Nat → Prop} {v : Value} {l : List Nat} (h : OW w B v l) (k : Only S w w') (hs : ∀ g, B ≤ g → ¬ S g) : OW w' B v l :=
  ⟨own_only h.1 k fun g hg => hs g (h.1.lt g hg).1, h.2⟩
theorem OW.cell {w : World} {B g c : Nat} {l : List Nat} {n : Nat} (h : OW w B (.slice (some ⟨g, 0, none⟩) n c) l) (j : Nat) (hj : j < l.length) : w.cell? ⟨g, j, none⟩ = some (.int .u64 ((l[j]'hj : Nat) : Int)) := by
  have h1 := h.1.cells (g := g) rfl j (.int .u64 ((l[j]'hj : Nat) : Int)) (by simp [wcells, hj])
  rw [Addr.add_lit, Nat.zero_add] at h1
  exact h1
theorem OW.len {w : World} {B g c : Nat} {l : List Nat} {n : Nat} (h : OW w B (.slice (some ⟨g, 0, none⟩) n c) l) : n = l.length := by
  rcases h.form with ⟨hv, _⟩ | ⟨_, _, hv, _⟩
  · simp at hv
  · injection hv
theorem OW.free {w : World} {B g c : Nat} {l : List Nat} {n : Nat} (h : OW w B (.slice (some ⟨g, 0, none⟩) n c) l) (j : Nat) : w.frozen? ⟨g, j, none⟩ = false := by
  have hn := h.len
  subst hn
  exact h.1.frozenAt j
theorem OW.store {w : World} {B g c : Nat} {l : List Nat} {n : Nat} (h : OW w B (.slice (some ⟨g, 0, none⟩) n c) l) (j x : Nat) (hx : x < W64) : OW (w.setCell ⟨g, j, none⟩ (.int .u64 (x : Int))) B (.slice (some ⟨g, 0, none⟩) n c) (l.set j x) := by
  have hn := h.len
  subst hn
  have h1 := h.1.stored j (.int .u64 (x : Int))
  refine ⟨by simpa [wcells, List.map_set] using h1.1, ?_⟩
  intro y hy
  rcases List.mem_or_eq_of_mem_set hy with hy | rfl
  · exact h.2 y hy
  · exact hx
theorem ow_nil (w : World) (B : Nat) : OW w B (.slice none 0 0) [] := ⟨World.ownsRow_nil _ _ _ _, by simp⟩
theorem Tryz.infoWord : (Tryz.prog.info? 158).map (fun i => (i.zero, i.size, i.bytes)) = some (some (.int .u64 0), 1, 8) := by kernel_rfl
theorem words_made (n c : Nat) (hnc : n ≤ c) (hc : c ≤ 1000000) (w : World) :
    ∃ W1, (Instr.makeSlice 134 (.int .i64 (n : Int)) (.int .i64 (c : Int))).run Tryz.prog w = .ok (.slice (some ⟨w.heap.size, 0, none⟩) n c) W1 ∧ OW W1 w.heap.size (.slice (some ⟨w.heap.size, 0, none⟩) n c) (List.replicate n 0) ∧ Below w.heap.size w W1 := by
  obtain ⟨i0, hi, hz0, hz1, hz2⟩ := info_parts Tryz.infoWord
  have h := run_make (P := Tryz.prog) w 134 158 i0 _ Tryz.underlying134 hi hz0 .i64 .i64 (n : Int) (c : Int) (by omega) (by omega) (by rw [hz2]; omega) (by omega)
  have e : madeCells (Value.int .u64 0).cells ((c : Int).toNat * i0.size) = madeCells #[.int .u64 0] c := by rw [hz1]; simp [Value.cells]
  have e1 : ((n : Int).toNat) = n := by omega
  have e2 : ((c : Int).toNat) = c := by omega
  rw [e, e1, e2] at h
  refine ⟨_, h, ⟨⟨by simp, .inr ⟨w.heap.size, c, _, by simp, Nat.le_refl _, heap_alloc_new w _, by simpa using hnc, by unfold maxLen; omega, by simp [size_madeCells], ?_⟩⟩, ?_⟩, (Below.refl _ w).alloc (Nat.le_refl _) _⟩
  · rw [toList_madeCells_one]
    simp [wcells, List.take_replicate]
    omega
  · intro x hx
    have := List.eq_of_mem_replicate hx
    subst this
    exact W64_pos
set_option maxRecDepth 20000 in
set_option maxHeartbeats 1000000 in
/-- make of a nat, from nothing. -/
theorem nat_make (n : Nat) (hn : n ≤ 100000) (w : World) :
    Calls Tryz.prog 90 #[.slice none 0 0, .int .i64 (n : Int)] w fun e w' => (∃ v, e = .returned v ∧ OW w' w.heap.size v (List.replicate n 0)) ∧ Below w.heap.size w w' := by
  by_cases h0 : n = 0
  · subst h0
    go_enter Tryz.func90, Tryz.ntmps90
    go_wp2
    go_ret
    exact ⟨⟨_, rfl, ow_nil _ _⟩, Below.refl _ _⟩
  · have hd0 : decide ((n : Int) ≤ 0) = false := by simp; omega
    have hd1 : decide (n = 0) = false := by simp; omega
    by_cases h1 : n = 1
    · subst h1
      obtain ⟨W1, hmk, how, hb⟩ := words_made 1 1 (by omega) (by omega) w
      rw [show ((1 : Nat) : Int) = 1 from rfl] at hmk
      have HOW := Lib.hid how
      clear how
      go_enter Tryz.func90, Tryz.ntmps90
      go_wp2
      go_ret
      exact ⟨⟨_, rfl, HOW.out⟩, hb⟩
    · have hb1 : ((n : Int) == 1) = false := by rw [beq_eq_false_iff_ne]; omega
      obtain ⟨c, hc⟩ : ∃ c : Nat, (n : Int) + 4 = (c : Int) := ⟨n + 4, by omega⟩
      obtain ⟨W1, hmk, how, hb⟩ := words_made n c (by omega) (by omega) w
      have HOW := Lib.hid how
      clear how h0 h1
      go_enter Tryz.func90, Tryz.ntmps90
      go_wp2
      go_ret
      exact ⟨⟨_, rfl, HOW.out⟩, hb⟩
end Go.Proofs.YteibkaonofkcbaaGreat
namespace Go.Proofs.YteibkaonofkcbaaGreat
open Go.RowKit
theorem OW.take {w : World} {B g c n : Nat} {l : List Nat} (h : OW w B (.slice (some ⟨g, 0, none⟩) n c) l) (k : Nat) (hk : k ≤ l.length) : OW w B (.slice (some ⟨g, 0, none⟩) k c) (l.take k) := by
  have hn := h.len
  subst hn
  refine ⟨⟨by simp, ?_⟩, fun x hx => h.2 x (List.mem_of_mem_take hx)⟩
  rcases h.1.2 with ⟨hv, _⟩ | ⟨g', cap, cur, hv, hb, hh, h1, h2, h3, h4⟩
  · simp at hv
  · injection hv with e1 e2 e3
    have e4 := Option.some.inj e1
    injection e4 with e5
    subst e3 e5
    have hl : (l.take k).length = k := by simp; omega
    refine .inr ⟨g, c, cur, by rw [hl], hb, hh, by omega, h2, h3, ?_⟩
    rw [hl]
    have : (cur.toList.take (l.length * 1)).take k = (wcells l).take k := by rw [h4]
    rw [List.take_take] at this
    rw [show min k (l.length * 1) = k * 1 by omega] at this
    rw [this]
    simp [wcells, List.map_take]
/-- No leading zero. -/
def TopNZ (l : List Nat) : Prop := l.getLast? ≠ some 0
theorem topNZ_take {l : List Nat} {k : Nat} (hk : k ≤ l.length) (h : ∀ (h0 : 0 < k) (hl : k - 1 < l.length), l[k - 1]'hl ≠ 0) : TopNZ (l.take k) := by
  unfold TopNZ
  rw [List.getLast?_eq_getElem?]
  have hl : (l.take k).length = k := by simp; omega
  rw [hl]
  by_cases h0 : 0 < k
  · rw [List.getElem?_take, if_pos (by omega), List.getElem?_eq_getElem (by omega)]
    intro e
    exact h h0 (by omega) (Option.some.inj e)
  · have : l.take k = [] := List.eq_nil_of_length_eq_zero (by omega)
    rw [this]; simp
def NormPost (B : Nat) (l : List Nat) (w : World) (e : Ending) (w' : World) : Prop := ∃ v l', e = .returned v ∧ OW w B v l' ∧ valW l' = valW l ∧ TopNZ l' ∧ w = w'
theorem nat_slice (w : World) (g n c k : Nat) (hk : k ≤ c) :
    (Instr.slice 134 (.slice (some ⟨g, 0, none⟩) n c) (some (.int .i64 0)) (some (.int .i64 (k : Int))) none).run Tryz.prog w = .ok (.slice (some ⟨g, 0, none⟩) k c) w := by
  simp [Instr.slice, run_underlying Tryz.underlying134, Instr.sliceBounds, Instr.sliceBound, asIntOf, hk, Tryz.sizeOf158, Addr.add_lit]
set_option maxRecDepth 20000 in
set_option maxHeartbeats 2000000 in
theorem nat_norm (B : Nat) (v : Value) (l : List Nat) (hl : l.length ≤ 100000) (w : World) (h : OW w B v l) :
    Calls Tryz.prog 92 #[v] w (NormPost B l w) := by
  rcases h.form with ⟨rfl, rfl⟩ | ⟨g, c, rfl, _, _, hc, hcm⟩
  · go_enter Tryz.func92, Tryz.ntmps92
    go_wp2_with fail
    refine wp_loop_rounds 1 ?_
    rw [rounds_succ]
    go_wp2
    go_ret
    exact ⟨_, [], rfl, ow_nil _ _, rfl, by simp [TopNZ], rfl⟩
  · obtain ⟨n, hn⟩ : ∃ n, n = l.length := ⟨_, rfl⟩
    rw [← hn] at h hc hl ⊢
    have HN := Lib.hid hn
    have H := Lib.hid h
    unfold maxLen at hcm
    clear h hn
    go_enter Tryz.func92, Tryz.ntmps92
    go_wp2_with fail
    go_loop [3] (fun i => ∃ k : Nat, k ≤ n ∧ i = .int .i64 k ∧ Hid (∀ j (hj : j < l.length), k ≤ j → l[j]'hj = 0)) (fun i => (intOf i).toNat)
    case atStart => exact ⟨n, Nat.le_refl _, rfl, fun j hj h => by have := HN.out; omega⟩
    case round =>
      obtain ⟨k, hk, rfl, hz⟩ := hrel
      by_cases h0 : 0 < k
      · obtain ⟨j, rfl⟩ : ∃ j, k = j + 1 := ⟨k - 1, by omega⟩
        have hjl : j < l.length := by have := HN.out; omega
        have hcell := H.out.cell j hjl
        have hd : decide ((0 : Int) < ((j + 1 : Nat) : Int)) = true := by rw [decide_eq_true_iff]; omega
        have hsub : ((j + 1 : Nat) : Int) - 1 = (j : Int) := by omega
        by_cases hx : l[j]'hjl = 0
        · have hb : (((l[j]'hjl : Nat) : Int) == 0) = true := by rw [beq_iff_eq]; omega
          have HX := Lib.hid hx
          clear hx
          go_wp2
          go_round
          case rel => exact ⟨j, by omega, by go_num, fun i hi hji => by
            by_cases e : i = j
            · subst e; exact HX.out
            · exact hz.out i hi (by omega)⟩
          case measure => simp [intOf]
        · have hb : (((l[j]'hjl : Nat) : Int) == 0) = false := by rw [beq_eq_false_iff_ne]; omega
          have HX := Lib.hid hx
          have hsl := fun W => nat_slice W g n c (j + 1) (by omega)
          clear hx
          go_wp2
          go_ret
          exact ⟨_, l.take (j + 1), rfl, H.out.take (j + 1) (by omega), valW_take l (j + 1) (by omega) hz.out, topNZ_take (by omega) (fun _ _ => HX.out), rfl⟩
      · obtain rfl : k = 0 := by omega
        have hsl := fun W => nat_slice W g n c 0 (by omega)
        go_wp2
        go_ret
        exact ⟨_, l.take 0, rfl, H.out.take 0 (by omega), valW_take l 0 (by omega) hz.out, topNZ_take (by omega) (fun h _ => by omega), rfl⟩
end Go.Proofs.YteibkaonofkcbaaGreat
