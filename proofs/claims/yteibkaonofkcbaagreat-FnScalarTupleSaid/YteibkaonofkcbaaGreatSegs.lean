/- A part of a row of values put behind another row. -/
import Derived.Test.YteibkaonofkcbaaGreatTell
import Derived.Laws.AppendOwnNone
set_option linter.unusedSimpArgs false
set_option linter.unusedVariables false
namespace Go.Proofs.YteibkaonofkcbaaGreat
open Go.RowKit
/-- A slice that reads as these values. -/
def Seg (w : World) (q : Option Addr) (m c : Nat) (ps : List (Value × Sx)) : Prop :=
  ps.length = m ∧ (q = none → m = 0 ∧ c = 0) ∧ (∀ p, q = some p → ∀ j u, (ps.flatMap fun p => c6 p.1)[j]? = some u → w.cell? (p.add j) = some u) ∧ ∀ p ∈ ps, RVal w p.1 p.2
theorem Seg.below {w w' : World} {q : Option Addr} {m c : Nat} {ps : List (Value × Sx)} (h : Seg w q m c ps) (hb : Below w.heap.size w w') : Seg w' q m c ps := by
  obtain ⟨h1, h2, h3, h4⟩ := h
  refine ⟨h1, h2, fun p hp j u hu => ?_, fun p hp => (h4 p hp).below hb⟩
  have hc := h3 p hp j u hu
  exact (hb.cell (p := p.add j) (World.block_lt_of_cell? w _ hc)).trans hc
theorem six_one {w : World} {v : Value} {s : Sx} (h : RVal w v s) : ∀ u ∈ c6 v, u.oneCell' = true := by
  obtain ⟨neg, aa, n, c, b, tx, rfl⟩ := h.form
  intro u hu
  simp [c6, pv] at hu
  rcases hu with rfl | rfl | rfl | rfl | rfl | rfl <;> rfl
theorem flat_len {w : World} {ps : List (Value × Sx)} (h : ∀ p ∈ ps, RVal w p.1 p.2) : (ps.flatMap fun p => c6 p.1).length = ps.length * 6 := by
  induction ps with
  | nil => rfl
  | cons p r ih =>
    rw [List.flatMap_cons, List.length_append, (h p (by simp)).six, ih (fun q hq => h q (by simp [hq])), List.length_cons]
    omega
set_option maxHeartbeats 1000000 in
theorem wp_append_seg {o : Oper} {a : Act} {K : Act → World → Prop} {Q : Exit → Act → World → Prop} (w : World) (s x : Operand)
    (ho : o.op = .call { callee := .builtin .append, args := #[s, x], argTypes := #[22, 22] })
    (B : Nat) (v : Value) (qs : List (Value × Sx)) (hr : RowR w B v qs) (hs : a.eval s = v) (q : Option Addr) (m c : Nat) (ps : List (Value × Sx)) (hp : Seg w q m c ps) (hx : a.eval x = .slice q m c)
    (hlen : qs.length ≤ 1000) (hm : m ≤ 1000) (hB : B ≤ w.heap.size)
    (h : ∀ v' w', RowR w' B v' (qs ++ ps) → Below B w w' → w.grownBy w' v.ownBlock → K (a.put o.dst v') w') : o.wp Tryz.prog a w K Q := by
  obtain ⟨i0, hi0, hz0, hz1, hz2⟩ := info_parts Tryz.infoVal
  obtain ⟨hpl, hq0, hcell, hrv⟩ := hp
  cases q with
  | none =>
    obtain ⟨rfl, rfl⟩ := hq0 rfl
    obtain rfl : ps = [] := List.eq_nil_of_length_eq_zero hpl
    have hrun := run_append_owned_none (P := Tryz.prog) (w := w) B 22 o.type 33 i0 6 Tryz.underlying22 hi0 v qs.length _ hr.1
    unfold Oper.wp
    simp [execOp, ho, resolve, invoke, builtin, hs, hx, hrun, Result.andThen]
    refine h v w (by simpa using hr) (Below.refl _ _) ?_
    exact ⟨rfl, rfl, rfl, Nat.le_refl _, fun _ _ _ => rfl⟩
  | some p =>
    obtain ⟨v', w', hrun, hown', hg, _⟩ := run_append_own (P := Tryz.prog) w B 22 o.type 33 i0 _ 6 88 Tryz.underlying22 hi0 hz0 hz1 hz2 rfl (by decide) v qs.length _ hr.1 p m c (ps.flatMap fun p => c6 p.1) (by rw [flat_len hrv, hpl]) (hcell p rfl)
      (fun u hu => by obtain ⟨y, hy, hu⟩ := List.mem_flatMap.1 hu; exact six_one (hrv y hy) u hu) (by unfold maxLen; omega) (by omega) hB
    unfold Oper.wp execOp
    simp only [ho, resolve, invoke, builtin, Sem.run_bind, Sem.run_pure, Result.andThen_ok, List.map_toArray, List.map_cons, List.map_nil, hs, hx, hrun]
    refine h v' w' ⟨?_, fun y hy => ?_⟩ ((Below.refl B w).grown hg hB fun k hk => (hr.1.lt k hk).1) hg
    · rw [List.length_append, List.flatMap_append, hpl]
      exact hown'
    · have hy2 : RVal w y.1 y.2 := by
        rcases List.mem_append.1 hy with hy | hy
        · exact hr.2 y hy
        · exact hrv y hy
      exact hy2.grown hr.1 (by decide) hg
theorem wpList_append_seg {ops : Array Oper} {rest : List Oper} {o : Oper} {a : Act} {Q : Exit → Act → World → Prop} (hgd : o.guard = none) (w : World) (s x : Operand)
    (ho : o.op = .call { callee := .builtin .append, args := #[s, x], argTypes := #[22, 22] })
    (B : Nat) (v : Value) (qs : List (Value × Sx)) (hr : RowR w B v qs) (hs : a.eval s = v) (q : Option Addr) (m c : Nat) (ps : List (Value × Sx)) (hp : Seg w q m c ps) (hx : a.eval x = .slice q m c)
    (hlen : qs.length ≤ 1000) (hm : m ≤ 1000) (hB : B ≤ w.heap.size)
    (h : ∀ v' w', RowR w' B v' (qs ++ ps) → Below B w w' → w.grownBy w' v.ownBlock → wpList Tryz.prog ops Q rest (a.put o.dst v') w') : wpList Tryz.prog ops Q (o :: rest) a w :=
  wpList_plain hgd fun _ hK => wp_append_seg w s x ho B v qs hr hs q m c ps hp hx hlen hm hB fun v' w' h1 h2 h3 => hK _ _ (h v' w' h1 h2 h3)
theorem step_append_seg {ops : Array Oper} {o : Oper} {a : Act} {K : Act → World → Prop} {Q : Exit → Act → World → Prop} {E : Prop} (hgd : o.guard = none) (w : World) (s x : Operand)
    (ho : o.op = .call { callee := .builtin .append, args := #[s, x], argTypes := #[22, 22] })
    (B : Nat) (v : Value) (qs : List (Value × Sx)) (hr : RowR w B v qs) (hs : a.eval s = v) (q : Option Addr) (m c : Nat) (ps : List (Value × Sx)) (hp : Seg w q m c ps) (hx : a.eval x = .slice q m c)
    (hlen : qs.length ≤ 1000) (hm : m ≤ 1000) (hB : B ≤ w.heap.size)
    (h : ∀ v' w', RowR w' B v' (qs ++ ps) → Below B w w' → w.grownBy w' v.ownBlock → K (a.put o.dst v') w') : if Region.wanted o (yielded ops a.tmps) = true then Oper.wp Tryz.prog o a w K Q else E := by
  have hw : Region.wanted o (yielded ops a.tmps) = true := by simp [Region.wanted, hgd]
  rw [if_pos hw]
  exact wp_append_seg w s x ho B v qs hr hs q m c ps hp hx hlen hm hB h
theorem flat_take {w : World} {ps : List (Value × Sx)} (h : ∀ p ∈ ps, RVal w p.1 p.2) (i j k : Nat) {u : Value} (hk : (((ps.drop i).take j).flatMap fun p => c6 p.1)[k]? = some u) : (ps.flatMap fun p => c6 p.1)[i * 6 + k]? = some u := by
  have hd : ∀ p ∈ ps.drop i, RVal w p.1 p.2 := fun p hp => h p (List.mem_of_mem_drop hp)
  have hkl : k < (((ps.drop i).take j).flatMap fun p => c6 p.1).length := (List.getElem?_eq_some_iff.1 hk).1
  have e1 : ((ps.drop i).flatMap fun p => c6 p.1)[k]? = some u := by
    have := List.take_append_drop j (ps.drop i)
    rw [← this, List.flatMap_append, List.getElem?_append_left hkl]
    exact hk
  by_cases hi : i ≤ ps.length
  · have e2 := List.take_append_drop i ps
    have e3 : ((ps.take i).flatMap fun p => c6 p.1).length = i * 6 := by
      rw [flat_len (w := w) (fun p hp => h p (List.mem_of_mem_take hp)), List.length_take, Nat.min_eq_left hi]
    rw [← e2, List.flatMap_append, List.getElem?_append_right (by omega), e3, show i * 6 + k - i * 6 = k by omega]
    exact e1
  · rw [List.drop_eq_nil_of_le (by omega)] at e1
    simp at e1
/-- A row cut at a place. -/
theorem RowR.head {w : World} {B : Nat} {a : Option Addr} {c : Nat} {ps : List (Value × Sx)} (h : RowR w B (.slice a ps.length c) ps) (k : Nat) (hk : k ≤ ps.length) :
    Seg w a k c (ps.take k) ∧ ∀ W : World, (Instr.slice 22 (.slice a ps.length c) none (some (.int .i64 (k : Int))) none).run Tryz.prog W = .ok (.slice a k c) W := by
  have hs : ∀ w, (sizeOf 33).run Tryz.prog w = .ok 6 w := fun w => by kernel_rfl
  rcases h.1.2 with ⟨hv, h0⟩ | ⟨g, cap, cur, hv, hb, hh, h1, h2, h3, _⟩
  · injection hv with e1 e2 e3
    subst e1 e3
    obtain rfl : k = 0 := by omega
    obtain rfl : ps = [] := List.eq_nil_of_length_eq_zero h0
    exact ⟨⟨rfl, fun _ => ⟨rfl, rfl⟩, fun p hp => by simp at hp, fun p hp => by simp at hp⟩, fun W => by simp [Instr.slice, run_underlying Tryz.underlying22, Instr.sliceBounds, Instr.sliceBound, asIntOf, hs]⟩
  · injection hv with e1 e2 e3
    subst e1 e3
    refine ⟨⟨by rw [List.length_take]; omega, fun h => by simp at h, fun p hp j u hj => ?_, fun p hp => h.2 p (List.mem_of_mem_take hp)⟩, fun W => ?_⟩
    · injection hp with hp
      subst hp
      have := flat_take (w := w) h.2 0 k j (by simpa using hj)
      exact h.1.cells (g := g) rfl j u (by simpa using this)
    · have hkc : k ≤ c := by omega
      by_cases hc0 : c = 0
      · subst hc0
        obtain rfl : k = 0 := by omega
        simp [Instr.slice, run_underlying Tryz.underlying22, Instr.sliceBounds, Instr.sliceBound, asIntOf, hs]
      · simp [Instr.slice, run_underlying Tryz.underlying22, Instr.sliceBounds, Instr.sliceBound, asIntOf, hkc, hc0, hs, Addr.add_lit]
theorem RowR.tail {w : World} {B : Nat} {a : Option Addr} {c : Nat} {ps : List (Value × Sx)} (h : RowR w B (.slice a ps.length c) ps) (k : Nat) (hk : k ≤ ps.length) :
    ∃ q d, Seg w q (ps.length - k) d (ps.drop k) ∧ ∀ W : World, (Instr.slice 22 (.slice a ps.length c) (some (.int .i64 (k : Int))) none none).run Tryz.prog W = .ok (.slice q (ps.length - k) d) W := by
  have hs : ∀ w, (sizeOf 33).run Tryz.prog w = .ok 6 w := fun w => by kernel_rfl
  rcases h.1.2 with ⟨hv, h0⟩ | ⟨g, cap, cur, hv, hb, hh, h1, h2, h3, _⟩
  · injection hv with e1 e2 e3
    subst e1 e3
    obtain rfl : k = 0 := by omega
    obtain rfl : ps = [] := List.eq_nil_of_length_eq_zero h0
    exact ⟨none, 0, ⟨rfl, fun _ => ⟨rfl, rfl⟩, fun p hp => by simp at hp, fun p hp => by simp at hp⟩, fun W => by simp [Instr.slice, run_underlying Tryz.underlying22, Instr.sliceBounds, Instr.sliceBound, asIntOf, hs]⟩
  · injection hv with e1 e2 e3
    subst e1 e3
    by_cases hck : c = k
    · subst hck
      have hlc : ps.length = c := by omega
      refine ⟨some ⟨g, 0, none⟩, 0, ⟨by rw [List.length_drop], fun h => by simp at h, fun p hp j u hj => ?_, fun p hp => h.2 p (List.mem_of_mem_drop hp)⟩, fun W => ?_⟩
      · rw [List.drop_eq_nil_of_le (by omega)] at hj
        simp at hj
      · simp [Instr.slice, run_underlying Tryz.underlying22, Instr.sliceBounds, Instr.sliceBound, asIntOf, hk, hs]
    · refine ⟨some ⟨g, k * 6, none⟩, c - k, ⟨by rw [List.length_drop], fun h => by simp at h, fun p hp j u hj => ?_, fun p hp => h.2 p (List.mem_of_mem_drop hp)⟩, fun W => ?_⟩
      · injection hp with hp
        subst hp
        have h4 := flat_take (w := w) h.2 k (ps.length - k) j (by rw [List.take_of_length_le (by rw [List.length_drop]; exact Nat.le_refl _)]; exact hj)
        have := h.1.cells (g := g) rfl (k * 6 + j) u h4
        rw [Addr.add_lit] at this ⊢
        simpa using this
      · simp [Instr.slice, run_underlying Tryz.underlying22, Instr.sliceBounds, Instr.sliceBound, asIntOf, hk, hck, hs, Addr.add_lit]
end Go.Proofs.YteibkaonofkcbaaGreat
