/- Joined texts: TupT, GuardT. -/
import Derived.Test.YteibkaonofkcbaaGreatTupJoinM
import Derived.Test.YteibkaonofkcbaaGreatTell
import Derived.Deep.LoopGhost
import Derived.IntWalk
namespace Go.Proofs.YteibkaonofkcbaaGreat
open Go.RowKit
set_option linter.unusedSimpArgs false
set_option linter.unusedVariables false
attribute [local go_sem ↓] Go.wp_at_zero Go.wp_at_succ
/-- Values of the package that a slice reads. -/
def SegT (w : World) (a : Option Addr) (m c : Nat) (ps : List (Value × Sx)) : Prop :=
  ps.length = m ∧ m ≤ c ∧ c ≤ maxLen ∧ (a = none → c = 0) ∧ (∀ p, a = some p → ∀ j u, (ps.map (·.1))[j]? = some u → w.cell? (p.add j) = some u) ∧ ∀ p ∈ ps, TVal w p.1 p.2
theorem SegT.below {w w' : World} {a : Option Addr} {m c : Nat} {ps : List (Value × Sx)} (h : SegT w a m c ps) (hb : Below w.heap.size w w') : SegT w' a m c ps := by
  obtain ⟨h1, h2, h3, h4, h5, h6⟩ := h
  refine ⟨h1, h2, h3, h4, fun p hp j u hu => ?_, fun p hp => (h6 p hp).below hb⟩
  have hc := h5 p hp j u hu
  exact (hb.cell (p := p.add j) (World.block_lt_of_cell? w _ hc)).trans hc
theorem tup_len (a : Option Addr) (n c : Nat) (w : World) : Calls Tryz.prog 43 #[.slice a n c] w fun e w' => e = .returned (.int .i64 (n : Int)) ∧ w = w' := by
  go_enter Tryz.func43, Tryz.ntmps43
  go_wp2
  go_ret
  exact ⟨rfl, rfl⟩
theorem tup_truth0 (a : Option Addr) (c : Nat) (w : World) : Calls Tryz.prog 49 #[.slice a 0 c] w fun e w' => e = .returned (.bool false) ∧ w = w' := by
  go_enter Tryz.func49, Tryz.ntmps49
  go_wp2
  go_ret
  exact ⟨rfl, rfl⟩
theorem tup_truth1 (a : Option Addr) (n c : Nat) (w : World) (hn : 0 < n) : Calls Tryz.prog 49 #[.slice a n c] w fun e w' => e = .returned (.bool true) ∧ w = w' := by
  have d1 : decide (0 < (n : Int)) = true := by simp; omega
  have d2 : decide (0 < n) = true := by simp; omega
  go_enter Tryz.func49, Tryz.ntmps49
  go_wp2
  go_ret
  exact ⟨rfl, rfl⟩
theorem tup_truth (a : Option Addr) (n c : Nat) (w : World) : Calls Tryz.prog 49 #[.slice a n c] w fun e w' => e = .returned (.bool (decide (0 < n))) ∧ w = w' := by
  by_cases h : n = 0
  · subst h; exact tup_truth0 a c w
  · have d : decide (0 < n) = true := by simp; omega
    rw [d]
    exact tup_truth1 a n c w (by omega)
/-- An element of a tuple. -/
theorem SegT.at {w : World} {a : Option Addr} {m c : Nat} {ps : List (Value × Sx)} (h : SegT w a m c ps) (i : Nat) (hi : i < ps.length) :
    ∃ p t x, a = some p ∧ (ps[i]'hi).1 = .iface t x ∧ w.cell? (p.add i) = some (.iface t x) := by
  obtain ⟨h1, h2, h3, h4, h5, h6⟩ := h
  obtain ⟨t, x, he⟩ := (h6 _ (List.getElem_mem hi)).iface
  cases a with
  | none => have := h4 rfl; omega
  | some p => exact ⟨p, t, x, rfl, he, h5 p rfl i _ (by rw [List.getElem?_map, List.getElem?_eq_getElem hi]; simp [he])⟩
set_option maxRecDepth 20000 in
theorem tup_index (a : Option Addr) (n c i : Nat) (ps : List (Value × Sx)) (w : World) (h : SegT w a n c ps) (hi : i < ps.length) :
    Calls Tryz.prog 45 #[.slice a n c, .int .i64 (i : Int)] w fun e w' => e = .returned (ps[i]'hi).1 ∧ w = w' := by
  obtain ⟨p, t, x, rfl, he, hc⟩ := h.at i hi
  have h0 : (0 : Int) ≤ (i : Int) := by omega
  have h1 : (i : Int) < (n : Int) := by have := h.1; omega
  rw [he]
  clear h he
  go_enter Tryz.func45, Tryz.ntmps45
  go_wp2
  go_ret
  exact ⟨rfl, rfl⟩
theorem tup_iter (a : Option Addr) (n c : Nat) (w : World) : Calls Tryz.prog 51 #[.slice a n c] w fun e w' => e = .returned (.iface 124 (.pointer (some ⟨w.heap.size, 0, none⟩))) ∧ w' = w.alloc (.cells #[.slice a n c] 126) := by
  go_enter Tryz.func51, Tryz.ntmps51
  go_wp2
  go_ret
  exact ⟨rfl, rfl⟩
set_option maxRecDepth 20000 in
theorem bounded_any (n : Nat) (i j m : Int) (w : World) (h : Bnd n i j m) : Calls Tryz.prog 46 #[.int .i64 (n : Int), .int .i64 i, .int .i64 j, .int .i64 m] w fun e w' => e = .returned (.bool true) ∧ w = w' := by
  rcases h with ⟨h1, h2, h3, h4, h5⟩ | ⟨h1, h2, h3, h4, h5⟩
  · have d1 : decide (0 < m) = true := by simp; omega
    have d2 : decide (0 ≤ i) = true := by simp; omega
    have d3 : decide (i ≤ j) = true := by simp; omega
    have d4 : decide (j ≤ (n : Int)) = true := by simp; omega
    have d5 : decide (m < 0) = false := by simp; omega
    clear h1 h2 h3 h4 h5
    go_enter Tryz.func46, Tryz.ntmps46
    go_wp2
    go_ret
    exact ⟨rfl, rfl⟩
  · have d1 : decide (0 < m) = false := by simp; omega
    have d2 : decide (m < 0) = true := by simp; omega
    have d3 : decide (-1 ≤ j) = true := by simp; omega
    have d4 : decide (j ≤ i) = true := by simp; omega
    have d5 : decide (i < (n : Int)) = true := by simp; omega
    clear h1 h2 h3 h4 h5
    go_enter Tryz.func46, Tryz.ntmps46
    go_wp2
    go_ret
    exact ⟨rfl, rfl⟩
end Go.Proofs.YteibkaonofkcbaaGreat
namespace Go.Proofs.YteibkaonofkcbaaGreat
open Go.RowKit
set_option linter.unusedSimpArgs false
set_option linter.unusedVariables false
attribute [local go_sem ↓] Go.wp_at_zero Go.wp_at_succ
def TurnPost (M : Int) (w : World) (e : Ending) (w' : World) : Prop := ∃ r : Int, e = .returned (.int .i64 r) ∧ 0 ≤ r ∧ r < M ∧ w = w'
theorem turn_plain (n M : Int) (h0 : 0 < M) (h1 : M ≤ 1000) : wrap64 (n.tmod M) = n.tmod M ∧ wrap64 (n.tmod M + M) = n.tmod M + M ∧ wrap64 ((n.tmod M + M).tmod M) = (n.tmod M + M).tmod M ∧ 0 ≤ (n.tmod M + M).tmod M ∧ (n.tmod M + M).tmod M < M := by
  have a1 : n.tmod M < M := Int.tmod_lt_of_pos n h0
  have a2 : -M < n.tmod M := Int.lt_tmod_of_pos n h0
  have a3 : 0 ≤ (n.tmod M + M).tmod M := Int.tmod_nonneg _ (by omega)
  have a4 : (n.tmod M + M).tmod M < M := Int.tmod_lt_of_pos _ h0
  refine ⟨?_, ?_, ?_, a3, a4⟩ <;> (unfold wrap64; omega)
set_option maxRecDepth 20000 in
theorem turn_any (n M : Int) (w : World) (h0 : 0 < M) (h1 : M ≤ 1000) :
    Calls Tryz.prog 28 #[.int .i64 n, .int .i64 M] w (TurnPost M w) := by
  obtain ⟨q1, q2, q3, q4, q5⟩ := turn_plain n M h0 h1
  have hz : ¬ M = 0 := by omega
  have Q4 := Lib.hid q4
  have Q5 := Lib.hid q5
  clear q4 q5 h0 h1
  go_enter Tryz.func28, Tryz.ntmps28
  go_wp2
  go_ret
  exact ⟨_, rfl, Q4.out, Q5.out, rfl⟩
/-- An iterator's place as the reference keeps it. -/
def atV : Option Nat → Value
  | none => .int .i64 (-1)
  | some c => .int .i64 (c : Int)
def RowO (w : World) (B : Nat) (v : Value) (at' : List (Option Nat)) : Prop := w.ownsRow B 3 1 v at'.length (at'.map atV)
theorem RowO.form {w : World} {B : Nat} {v : Value} {at' : List (Option Nat)} (h : RowO w B v at') : ∃ a c, v = .slice a at'.length c := by
  rcases h.2 with ⟨rfl, h0⟩ | ⟨g, cap, cur, rfl, _⟩
  · exact ⟨none, 0, by rw [h0]⟩
  · exact ⟨_, _, rfl⟩
theorem RowO.at {w : World} {B : Nat} {a : Option Addr} {n c : Nat} {at' : List (Option Nat)} (h : RowO w B (.slice a n c) at') (i : Nat) (x : Option Nat) (hi : at'[i]? = some x) :
    ∃ g, a = some ⟨g, 0, none⟩ ∧ B ≤ g ∧ g < w.heap.size ∧ w.cell? ⟨g, i, none⟩ = some (atV x) ∧ w.frozen? ⟨g, i, none⟩ = false := by
  have hl : i < at'.length := (List.getElem?_eq_some_iff.1 hi).1
  rcases h.2 with ⟨hv, h0⟩ | ⟨g, cap, cur, hv, hb, hh, _⟩
  · omega
  · injection hv with e1 e2 e3
    subst e1 e3
    have := h.cells (g := g) rfl i (atV x) (by rw [List.getElem?_map, hi]; rfl)
    rw [Addr.add_lit] at this
    exact ⟨g, rfl, hb, (Array.getElem?_eq_some_iff.1 hh).1, by simpa using this, Blk.frozen hh i⟩
/-- What the reference keeps of a list: not frozen, its iterators' places, how many are open. -/
def GuardB (w : World) (B G : Nat) (v : Value) (at' : List (Option Nat)) : Prop := Blk w G 46 #[.bool false, v, .int .i64 (openN at' : Int)] ∧ RowO w B v at'
theorem blk_grd {w : World} {g : Nat} {t : TypeId} {a b c : Value} (h : Blk w g t #[a, b, c]) : w.cell? ⟨g, 0, none⟩ = some a ∧ w.cell? ⟨g, 1, none⟩ = some b ∧ w.cell? ⟨g, 2, none⟩ = some c ∧ w.frozen? ⟨g, 0, none⟩ = false ∧ w.frozen? ⟨g, 1, none⟩ = false ∧ w.frozen? ⟨g, 2, none⟩ = false := ⟨(h.cell 0).trans rfl, (h.cell 1).trans rfl, (h.cell 2).trans rfl, h.frozen 0, h.frozen 1, h.frozen 2⟩
set_option maxRecDepth 20000 in
theorem pick_none (B G : Nat) (v : Value) (at' : List (Option Nat)) (n : Int) (w : World) (h : GuardB w B G v at') (h0 : openN at' = 0) :
    Calls Tryz.prog 27 #[.pointer (some ⟨G, 0, none⟩), .int .i64 n] w fun e w' => e = .returned (.tuple #[.int .i64 0, .bool false]) ∧ w = w' := by
  have hk := h.1
  rw [h0] at hk
  obtain ⟨c0, c1, c2, f0, f1, f2⟩ := blk_grd hk
  clear h hk h0
  go_enter Tryz.func27, Tryz.ntmps27
  go_wp2
  go_ret2
  exact ⟨rfl, rfl⟩
def PickPost (at' : List (Option Nat)) (w : World) (e : Ending) (w' : World) : Prop := ∃ i c : Nat, e = .returned (.tuple #[.int .i64 (i : Int), .bool true]) ∧ at'[i]? = some (some c) ∧ w = w'
set_option maxRecDepth 20000 in
set_option maxHeartbeats 2000000 in
theorem pick_some (B G : Nat) (v : Value) (at' : List (Option Nat)) (n : Int) (w : World) (h : GuardB w B G v at') (h0 : 0 < openN at') (hl : at'.length ≤ 1000) :
    Calls Tryz.prog 27 #[.pointer (some ⟨G, 0, none⟩), .int .i64 n] w (PickPost at' w) := by
  obtain ⟨op, hop⟩ : ∃ op, op = openN at' := ⟨_, rfl⟩
  have hle := openN_le at'
  have hk := h.1
  rw [← hop] at hk h0 hle
  obtain ⟨a, c, hv⟩ := h.2.form
  obtain ⟨m, hm⟩ : ∃ m, m = at'.length := ⟨_, rfl⟩
  rw [← hm] at hv hle hl
  subst hv
  obtain ⟨c0, c1, c2, f0, f1, f2⟩ := blk_grd hk
  have HT := Lib.hid (turn_any n (op : Int) w (by omega) (by omega))
  have HM := Lib.hid hm
  have HOP := Lib.hid hop
  have HR := Lib.hid h.2
  have z1 : ((op : Int) == 0) = false := by simp; omega
  have z2 : decide ((op : Int) = 0) = false := by simp; omega
  have z3 : ¬ (op : Int) = 0 := by omega
  have z4 : ¬ op = 0 := by omega
  clear h hk hm hop
  go_enter Tryz.func27, Tryz.ntmps27
  go_wp2_with fail
  refine HT.out.mono ?_
  rintro e w1 ⟨r, rfl, hr0, hr1, rfl⟩
  obtain ⟨j0, rfl⟩ : ∃ j0 : Nat, r = (j0 : Int) := ⟨r.toNat, by omega⟩
  have HJ0 : Hid (j0 < openN at') := by have := HOP.out; unfold Hid; omega
  clear hr0 hr1 z1 z2 z3 z4
  go_wp2_with fail
  go_loopg [4, 5, 6, 7] m (fun k r4 r5 kv iv wr => ∃ (i j : Nat), r4 = .int .i64 0 ∧ r5 = .bool false ∧ kv = .int .i64 (j : Int) ∧ iv = .int .i64 (i : Int) ∧ Hid (k + i = m) ∧ Hid (j < openN (at'.drop i)) ∧ Hid (wr = w))
  case atStart => exact ⟨0, j0, rfl, rfl, rfl, rfl, by show m + 0 = m; rfl, HJ0.out, rfl⟩
  case round =>
    obtain ⟨i, j, rfl, rfl, rfl, rfl, hk, hj, hw⟩ := hrel
    have hw := hw.out
    subst hw
    by_cases hin : i < m
    · obtain ⟨x, hx⟩ : ∃ x, at'[i]? = some x := ⟨_, List.getElem?_eq_getElem (by rw [← HM.out]; exact hin)⟩
      obtain ⟨g, rfl, _, _, hcell, _⟩ := HR.out.at i x hx
      have d1 : decide ((i : Int) < (m : Int)) = true := by simp; omega
      have d2 : decide (i < m) = true := by simp; omega
      have hi0 : (0 : Int) ≤ (i : Int) := by omega
      have hi1 : (i : Int) < (m : Int) := by omega
      have hi2 : (i : Int) < 1000 := by omega
      cases x with
      | none =>
        have HD : Hid (j < openN (at'.drop (i + 1))) := by have := hj.out; rw [openN_drop_none hx] at this; exact this
        have HX := Lib.hid hx
        unfold atV at hcell
        clear hx hj
        go_wp2_with fail
        go_roundg (m - (i + 1))
        case measure => have := hk.out; omega
        case rel => exact ⟨i + 1, j, rfl, rfl, rfl, by go_num, by have := hk.out; show m - (i + 1) + (i + 1) = m; omega, HD.out, rfl⟩
      | some q =>
        unfold atV at hcell
        have d3 : decide (0 ≤ (q : Int)) = true := by simp
        have HX := Lib.hid hx
        have hj' := hj.out
        rw [openN_drop_some hx] at hj'
        clear hx hj
        by_cases hj0 : j = 0
        · subst hj0
          clear hj'
          go_wp2
          go_ret2
          exact ⟨i, q, rfl, HX.out, rfl⟩
        · obtain ⟨j2, rfl⟩ : ∃ j2, j = j2 + 1 := ⟨j - 1, by omega⟩
          have HD : Hid (j2 < openN (at'.drop (i + 1))) := by unfold Hid; omega
          have e1 : (((j2 + 1 : Nat) : Int) == 0) = false := by simp; omega
          have e2 : ¬ ((j2 + 1 : Nat) : Int) = 0 := by omega
          have e3 : ((j2 + 1 : Nat) : Int) = (j2 : Int) + 1 := by omega
          have e4 : j2 ≤ 1000 := by
            have := List.length_drop (l := at') (i := i + 1)
            have := openN_le (at'.drop (i + 1))
            have := HM.out
            omega
          rw [e3] at e1 e2 ⊢
          clear hj' hj0 e3
          go_wp2_with fail
          go_roundg (m - (i + 1))
          case measure => have := hk.out; omega
          case rel => exact ⟨i + 1, j2, rfl, rfl, by go_num, by go_num, by have := hk.out; show m - (i + 1) + (i + 1) = m; omega, HD.out, rfl⟩
    · have := hj.out
      rw [List.drop_eq_nil_of_le (by rw [← HM.out]; omega)] at this
      simp [openN] at this
end Go.Proofs.YteibkaonofkcbaaGreat
