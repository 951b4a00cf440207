/- A row's tail moved up by one place: copy over itself; the list that is left. -/
import Derived.Test.YtmpfffcdpecadaaGreatTv
import Derived.Laws.CopyRow
import Derived.Laws.OwnMore
namespace Go.Proofs.YtmpfffcdpecadaaGreat
open Go.RowKit
theorem ins_list {α : Type} (vals : List α) (z o : α) (j : Nat) (hj : j < vals.length) : ((vals ++ [z]).take (j + 1) ++ ((vals ++ [z]).drop j).take (vals.length - j)).set j o = vals.take j ++ o :: vals.drop j := by
  have h1 : (vals ++ [z]).take (j + 1) = vals.take j ++ [vals[j]] := by
    rw [List.take_append_of_le_length (by omega), List.take_succ_eq_append_getElem hj]
  have h2 : ((vals ++ [z]).drop j).take (vals.length - j) = vals.drop j := by
    rw [List.drop_append_of_le_length (by omega), List.take_append_of_le_length (by simp), List.take_of_length_le (by simp)]
  rw [h1, h2, List.append_assoc, List.set_append_right _ _ (by rw [List.length_take]; exact Nat.min_le_left _ _), List.length_take, Nat.min_eq_left (by omega), Nat.sub_self]
  simp
theorem setRow_only (w : World) (g : Nat) (cs : Array Value) : Only (· = g) w (w.setRow g cs) :=
  ⟨rfl, rfl, rfl, by simp [World.setRow], fun i hi hne => by
    have : ¬ g = i := fun e => hne e.symm
    simp [World.setRow, Array.getElem?_modify, this]⟩
set_option maxHeartbeats 1000000 in
theorem wpList_copy_up {ops : Array Oper} {rest : List Oper} {o : Oper} {a : Act} {Q : Exit → Act → World → Prop} {w : World} (hgd : o.guard = none) (d s : Operand)
    (ho : o.op = .call { callee := .builtin .copy, args := #[d, s], argTypes := #[45, 45] }) (B g n cap j dc sc : Nat) (xs : List Value) (hn : xs.length = n + 1) (hj : j < n)
    (hd : a.eval d = .slice (some ⟨g, j + 1, none⟩) (n - j) dc) (hs : a.eval s = .slice (some ⟨g, j, none⟩) (n + 1 - j) sc)
    (hown : w.ownsRow B 49 1 (.slice (some ⟨g, 0, none⟩) (n + 1) cap) (n + 1) xs) (h1 : ∀ x ∈ xs, x.oneCell' = true)
    (h : ∀ w', w'.ownsRow B 49 1 (.slice (some ⟨g, 0, none⟩) (n + 1) cap) (n + 1) (xs.take (j + 1) ++ (xs.drop j).take (n - j)) → Only (· = g) w w' → wpList Tryz.prog ops Q rest (a.put o.dst (goInt (n - j : Nat))) w') : wpList Tryz.prog ops Q (o :: rest) a w := by
  have hsz : (Tryz.prog.info? 49).map (·.size) = some 1 := by kernel_rfl
  have hcl : ((xs.drop j).take (n - j)).length = n - j := by rw [List.length_take, List.length_drop, hn]; omega
  have hcells := fun k u (hk : xs[k]? = some u) => hown.cells (g := g) rfl k u hk
  rcases hown.2 with ⟨h0, _⟩ | ⟨g', cap', cur, hv, hb, hh, hc1, hc2, hc3, hc4⟩
  · simp at h0
  injection hv with e1 e2 e3
  injection e1 with e1
  injection e1 with e1
  subst e1 e3
  have hrun := run_copy_row (P := Tryz.prog) w 45 45 o.type 49 g (j + 1) (n - j) dc ⟨g, j, none⟩ (n + 1 - j) sc cur 49 ((xs.drop j).take (n - j)) Tryz.underlying45 hsz hh
    (by rw [hcl]; exact (Nat.min_eq_right (by omega)).symm) (fun k v hk => by
      have h2 : xs[j + k]? = some v := by
        rw [List.getElem?_take] at hk
        split at hk
        · rwa [List.getElem?_drop] at hk
        · simp at hk
      have := hcells (j + k) v h2
      rw [Addr.add_lit] at this ⊢
      simpa using this) (by rw [hcl, hc3]; omega) (fun v hv => h1 v (List.mem_of_mem_drop (List.mem_of_mem_take hv)))
  refine wpList_plain hgd fun K hK => ?_
  unfold Oper.wp
  rw [hcl] at hrun
  simp only [execOp, ho, resolve, invoke, builtin, Sem.run_bind, Sem.run_pure, Result.andThen_ok, List.map_toArray, List.map_cons, List.map_nil, hd, hs, hrun]
  refine hK _ _ (h _ ?_ (setRow_only w g _))
  have hwx : cur.toList.take (n + 1) = xs := by simpa using hc4
  have hcur : cur.toList = xs ++ cur.toList.drop (n + 1) := by rw [← hwx, List.take_append_drop]
  refine ⟨by simp [hn]; omega, .inr ⟨g, cap, _, rfl, hb, setRow_heap w g _ _ 49 _ hh, hc1, hc2, ?_, ?_⟩⟩
  · have hlen : cur.toList.length = cap := by rw [Array.length_toList, hc3]; simp
    simp [hn]
    omega
  · have t1 : cur.toList.take (j + 1) = xs.take (j + 1) := by conv => lhs; rw [hcur]
                                                              rw [List.take_append_of_le_length (by omega)]
    rw [t1]
    have hl : (xs.take (j + 1) ++ (xs.drop j).take (n - j)).length = n + 1 := by simp [hn]; omega
    simp only [Nat.mul_one]
    rw [List.take_append_of_le_length (by rw [hl]; exact Nat.le_refl _), List.take_of_length_le (by rw [hl]; exact Nat.le_refl _)]
theorem row_from (g n c k : Nat) (hk : k < n) (hc : n ≤ c) (w : World) :
    (Instr.slice 45 (.slice (some ⟨g, 0, none⟩) n c) (some (.int .i64 (k : Int))) none none).run Tryz.prog w = .ok (.slice (some ⟨g, k, none⟩) (n - k) (c - k)) w := by
  have h1 : ¬ c = k := by omega
  have h2 : k ≤ n := by omega
  have hs : ∀ w, (sizeOf 49).run Tryz.prog w = .ok 1 w := fun w => by kernel_rfl
  simp [Instr.slice, run_underlying Tryz.underlying45, Instr.sliceBounds, Instr.sliceBound, asIntOf, h2, h1, hs, Addr.add_lit]
theorem row_end (g n c k : Nat) (hk : k = n) (hc : n ≤ c) :
    ∃ q d, ∀ w : World, (Instr.slice 45 (.slice (some ⟨g, 0, none⟩) n c) (some (.int .i64 (k : Int))) none none).run Tryz.prog w = .ok (.slice q 0 d) w := by
  subst hk
  have hs : ∀ w, (sizeOf 49).run Tryz.prog w = .ok 1 w := fun w => by kernel_rfl
  by_cases h1 : c = k
  · subst h1
    exact ⟨some ⟨g, 0, none⟩, _, fun w => by simp [Instr.slice, run_underlying Tryz.underlying45, Instr.sliceBounds, Instr.sliceBound, asIntOf, hs, Addr.add_lit]; exact rfl⟩
  · exact ⟨some ⟨g, k, none⟩, _, fun w => by simp [Instr.slice, run_underlying Tryz.underlying45, Instr.sliceBounds, Instr.sliceBound, asIntOf, h1, hs, Addr.add_lit]; rfl⟩
theorem wpList_copy_zero {ops : Array Oper} {rest : List Oper} {o : Oper} {a : Act} {Q : Exit → Act → World → Prop} {w : World} (hgd : o.guard = none) (d s : Operand)
    (ho : o.op = .call { callee := .builtin .copy, args := #[d, s], argTypes := #[45, 45] }) (q1 q2 : Option Addr) (m dc sc : Nat)
    (hd : a.eval d = .slice q1 0 dc) (hs : a.eval s = .slice q2 m sc) (h : wpList Tryz.prog ops Q rest (a.put o.dst (goInt 0)) w) : wpList Tryz.prog ops Q (o :: rest) a w := by
  have hsz : (Tryz.prog.info? 49).map (·.size) = some 1 := by kernel_rfl
  have hrun := run_copy_none (P := Tryz.prog) w 45 45 o.type 49 q1 q2 0 dc m sc Tryz.underlying45 hsz (by simp)
  refine wpList_plain hgd fun K hK => ?_
  unfold Oper.wp
  simp only [execOp, ho, resolve, invoke, builtin, Sem.run_bind, Sem.run_pure, Result.andThen_ok, List.map_toArray, List.map_cons, List.map_nil, hd, hs, hrun]
  exact hK _ _ h
end Go.Proofs.YtmpfffcdpecadaaGreat
