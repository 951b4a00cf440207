/- Instructions in a row: what is read of each, and the last place ahead. Plain. -/
import Derived.Test.YtkddmiamdpbgiaaInstr
namespace Go.Proofs.Ytkddmiamdpbgiaa
open Go.RowKit
theorem toksOf_append (a b : List Ins) : toksOf (a ++ b) = toksOf a ++ toksOf b := by simp [toksOf]
theorem toks_split (l : List Ins) (j : Nat) (h : j < l.length) : toksOf l = toksOf (l.take j) ++ ((l[j]'h).toks ++ toksOf (l.drop (j + 1))) := by
  conv => lhs; rw [← List.take_append_drop j l, toksOf_append, List.drop_eq_getElem_cons h, toksOf_cons]
theorem toks_succ (l : List Ins) (j : Nat) (h : j < l.length) : toksOf (l.take (j + 1)) = toksOf (l.take j) ++ (l[j]'h).toks := by
  rw [List.take_succ_eq_append_getElem h, toksOf_append]
  simp [toksOf]
theorem toks_len (x : Ins) : x.toks.length = 1 + x.pads := by simp [Ins.toks]; omega
theorem tok_first (l : List Ins) (j : Nat) (h : j < l.length) : (toksOf l)[(toksOf (l.take j)).length]? = some ((l[j]'h).op, (l[j]'h).arg) := by
  rw [toks_split l j h, List.getElem?_append_right (Nat.le_refl _), Nat.sub_self]
  rfl
theorem tok_pad (l : List Ins) (j d : Nat) (h : j < l.length) (hd : d < (l[j]'h).pads) : (toksOf l)[(toksOf (l.take j)).length + 1 + d]? = some (0, 0) := by
  have hl := toks_len (l[j]'h)
  rw [toks_split l j h, List.getElem?_append_right (by omega), List.getElem?_append_left (by omega)]
  rw [show (toksOf (l.take j)).length + 1 + d - (toksOf (l.take j)).length = d + 1 by omega]
  unfold Ins.toks
  rw [List.getElem?_cons_succ, List.getElem?_replicate, if_pos hd]
theorem tok_next (l : List Ins) (j : Nat) (h : j < l.length) (hall : ∀ x ∈ l, 1 ≤ x.op) (t : Nat × Nat) (ht : (toksOf l)[(toksOf (l.take j)).length + 1 + (l[j]'h).pads]? = some t) : 1 ≤ t.1 := by
  have hl := toks_succ l j h
  have hl2 : (toksOf (l.take (j + 1))).length = (toksOf (l.take j)).length + 1 + (l[j]'h).pads := by rw [hl, List.length_append, toks_len]; omega
  rw [← hl2] at ht
  by_cases hj : j + 1 < l.length
  · rw [tok_first l (j + 1) hj] at ht
    obtain rfl := Option.some.inj ht
    exact hall _ (List.getElem_mem hj)
  · rw [List.take_of_length_le (by omega), List.getElem?_eq_none (Nat.le_refl _)] at ht
    simp at ht
theorem code_succ (l : List Ins) (j : Nat) (h : j < l.length) : (codeOf (l.take (j + 1))).length = (codeOf (l.take j)).length + (tokBytes ((l[j]'h).op, (l[j]'h).arg)).length + (l[j]'h).pads := by
  rw [List.take_succ_eq_append_getElem h, codeOf_append, List.length_append]
  have h1 : codeOf [l[j]'h] = (l[j]'h).bytes := by simp [codeOf]
  rw [h1, ← readOf_ins]
  unfold Ins.toks
  rw [readOf_cons, readOf_pads, List.length_append, List.length_replicate]
  omega
theorem in_at (ts : List (Nat × Nat)) (i : Nat) (t : Nat × Nat) (h : ts[i]? = some t) : (inCells ts)[i * 3]? = some (.int .i64 (t.1 : Int)) ∧ (inCells ts)[i * 3 + 1]? = some (.int .i64 (t.2 : Int)) ∧ (inCells ts)[i * 3 + 2]? = some (.int .i64 ((tokBytes t).length : Int)) := by
  induction ts generalizing i with
  | nil => simp at h
  | cons x xs ih =>
    have e : inCells (x :: xs) = [Value.int .i64 (x.1 : Int), .int .i64 (x.2 : Int), .int .i64 ((tokBytes x).length : Int)] ++ inCells xs := by simp [inCells]
    rw [e]
    cases i with
    | zero =>
      rw [List.getElem?_cons_zero] at h
      obtain rfl := Option.some.inj h
      exact ⟨rfl, rfl, rfl⟩
    | succ i =>
      rw [List.getElem?_cons_succ] at h
      have := ih i h
      refine ⟨?_, ?_, ?_⟩
      · rw [List.getElem?_append_right (by simp; omega)]; simpa [show (i + 1) * 3 - 3 = i * 3 by omega] using this.1
      · rw [List.getElem?_append_right (by simp; omega)]; simpa [show (i + 1) * 3 + 1 - 3 = i * 3 + 1 by omega] using this.2.1
      · rw [List.getElem?_append_right (by simp; omega)]; simpa [show (i + 1) * 3 + 2 - 3 = i * 3 + 2 by omega] using this.2.2
theorem flat2_at (l : List (Int × Int)) (i : Nat) (p : Int × Int) (h : l[i]? = some p) : (flat2 l)[i * 2]? = some (.int .i32 p.1) ∧ (flat2 l)[i * 2 + 1]? = some (.int .i32 p.2) := by
  induction l generalizing i with
  | nil => simp at h
  | cons x xs ih =>
    have e : flat2 (x :: xs) = [Value.int .i32 x.1, .int .i32 x.2] ++ flat2 xs := by simp [flat2]
    rw [e]
    cases i with
    | zero =>
      rw [List.getElem?_cons_zero] at h
      obtain rfl := Option.some.inj h
      exact ⟨rfl, rfl⟩
    | succ i =>
      rw [List.getElem?_cons_succ] at h
      have := ih i h
      refine ⟨?_, ?_⟩
      · rw [List.getElem?_append_right (by simp; omega)]; simpa [show (i + 1) * 2 - 2 = i * 2 by omega] using this.1
      · rw [List.getElem?_append_right (by simp; omega)]; simpa [show (i + 1) * 2 + 1 - 2 = i * 2 + 1 by omega] using this.2
theorem places_cons (x : Ins) (xs : List Ins) (pc : Nat) : placesOf (x :: xs) pc = if x.line = 0 then placesOf xs (pc + x.bytes.length) else (pc, x.line, x.col) :: placesOf xs (pc + x.bytes.length) := rfl
theorem places_append : ∀ (a b : List Ins) (pc : Nat), placesOf (a ++ b) pc = placesOf a pc ++ placesOf b (pc + (codeOf a).length) := by
  intro a
  induction a with
  | nil => intro b pc; simp [placesOf, codeOf]
  | cons x xs ih =>
    intro b pc
    have hcl : (codeOf (x :: xs)).length = x.bytes.length + (codeOf xs).length := by simp [codeOf]
    rw [List.cons_append, places_cons, places_cons, ih, hcl]
    split
    · rw [Nat.add_assoc]
    · rw [List.cons_append, Nat.add_assoc]
theorem places_lt : ∀ (a : List Ins) (pc : Nat), ∀ x ∈ placesOf a pc, x.1 < pc + (codeOf a).length := by
  intro a
  induction a with
  | nil => intro pc x hx; simp [placesOf] at hx
  | cons y ys ih =>
    intro pc x hx
    have hcl : (codeOf (y :: ys)).length = y.bytes.length + (codeOf ys).length := by simp [codeOf]
    have := bytes_pos y
    rw [hcl]
    unfold placesOf at hx
    split at hx
    · have := ih _ x hx; omega
    · rcases List.mem_cons.1 hx with rfl | hx
      · simp only; omega
      · have := ih _ x hx; omega
/-- The last place of the first j instructions. -/
def lastOf (l : List Ins) (j : Nat) : Option (Int × Int) := ((placesOf (l.take j) 0).getLast?).map (·.2)
theorem last_succ (l : List Ins) (j : Nat) (h : j < l.length) : lastOf l (j + 1) = if (l[j]'h).line = 0 then lastOf l j else some ((l[j]'h).line, (l[j]'h).col) := by
  unfold lastOf
  rw [List.take_succ_eq_append_getElem h, places_append]
  by_cases h0 : (l[j]'h).line = 0
  · rw [if_pos h0]
    have : placesOf [l[j]'h] (0 + (codeOf (l.take j)).length) = [] := by unfold placesOf; rw [if_pos h0]; rfl
    rw [this, List.append_nil]
  · rw [if_neg h0]
    have : placesOf [l[j]'h] (0 + (codeOf (l.take j)).length) = [(0 + (codeOf (l.take j)).length, (l[j]'h).line, (l[j]'h).col)] := by unfold placesOf; rw [if_neg h0]; rfl
    rw [this]
    simp
theorem last_is (l : List Ins) (j : Nat) (h : j < l.length) (p : Int × Int) (hp : lastOf l (j + 1) = some p) :
    ∃ q, ∃ hq : q < (placesOf l 0).length, IsLast (placesOf l 0) (codeOf (l.take j)).length q ∧ ((placesOf l 0)[q]'hq).2 = p := by
  have hsp : placesOf l 0 = placesOf (l.take (j + 1)) 0 ++ placesOf (l.drop (j + 1)) (codeOf (l.take (j + 1))).length := by
    conv => lhs; rw [← List.take_append_drop (j + 1) l, places_append]
    rw [Nat.zero_add]
  obtain ⟨A, hA⟩ : ∃ A, A = placesOf (l.take (j + 1)) 0 := ⟨_, rfl⟩
  have hle : ∀ x ∈ A, x.1 ≤ (codeOf (l.take j)).length := by
    intro x hx
    rw [hA, List.take_succ_eq_append_getElem h, places_append] at hx
    rcases List.mem_append.1 hx with hx | hx
    · have := places_lt _ _ x hx; omega
    · unfold placesOf at hx
      split at hx
      · simp [placesOf] at hx
      · simp only [placesOf, List.mem_singleton] at hx
        subst hx
        simp
  unfold lastOf at hp
  rw [← hA] at hp hsp
  obtain ⟨y, hy, rfl⟩ := Option.map_eq_some_iff.1 hp
  have hne : A ≠ [] := by intro e; rw [e] at hy; simp at hy
  have hpos : 0 < A.length := List.length_pos_iff.2 hne
  have hyA : A[A.length - 1]'(by omega) = y := by
    rw [List.getLast?_eq_getElem?, List.getElem?_eq_getElem (by omega)] at hy
    exact Option.some.inj hy
  have hq : A.length - 1 < (placesOf l 0).length := by rw [hsp, List.length_append]; omega
  have hqe : (placesOf l 0)[A.length - 1]'hq = y := by
    rw [← hyA]
    simp only [hsp]
    rw [List.getElem_append_left]
  refine ⟨A.length - 1, hq, ⟨hq, ?_, ?_⟩, by rw [hqe]⟩
  · rw [hqe, ← hyA]
    exact hle _ (List.getElem_mem _)
  · intro m hm hlt
    have hmem : (placesOf l 0)[m]'hm ∈ placesOf (l.drop (j + 1)) (codeOf (l.take (j + 1))).length := by
      simp only [hsp]
      rw [List.getElem_append_right (by omega)]
      exact List.getElem_mem _
    have h1 := places_ge _ _ _ hmem
    have h2 := code_succ l j h
    have h3 := tokBytes_pos ((l[j]'h).op, (l[j]'h).arg)
    omega
theorem bytes_le5 (x : Ins) (ha : x.arg < 268435456) : x.bytes.length ≤ 5 := by
  by_cases h : x.op = 44 ∨ x.op = 45
  · rw [bytes_a x h ha]; exact Nat.le_refl _
  · by_cases h2 : 43 ≤ x.op
    · rw [bytes_b x h h2]; have := vints4 x.arg ha; omega
    · rw [bytes_c x h2]; omega
theorem code_le (l : List Ins) (h : ∀ x ∈ l, x.arg < 268435456) : (codeOf l).length ≤ 5 * l.length := by
  induction l with
  | nil => simp [codeOf]
  | cons x xs ih =>
    have h1 : codeOf (x :: xs) = x.bytes ++ codeOf xs := by simp [codeOf]
    have h2 := bytes_le5 x (h x (by simp))
    have h3 := ih (fun y hy => h y (by simp [hy]))
    rw [h1, List.length_append, List.length_cons]; omega
theorem toks_ok (l : List Ins) (h : ∀ x ∈ l, x.op ≤ 67 ∧ x.arg < 268435456 ∧ (x.op < 43 → x.arg = 0)) : ∀ t ∈ toksOf l, t.1 ≤ 67 ∧ t.2 < 268435456 ∧ (t.1 < 43 → t.2 = 0) := by
  intro t ht
  unfold toksOf at ht
  rw [List.mem_flatten] at ht
  obtain ⟨b, hb, htb⟩ := ht
  rw [List.mem_map] at hb
  obtain ⟨x, hx, rfl⟩ := hb
  unfold Ins.toks at htb
  rcases List.mem_cons.1 htb with rfl | htb
  · exact h x hx
  · have := List.eq_of_mem_replicate htb
    subst this
    exact ⟨by omega, by omega, fun _ => rfl⟩
theorem pads_jump (x : Ins) (h : ¬ (43 ≤ x.op ∧ x.op ≤ 45)) : x.pads = 0 := by unfold Ins.pads; rw [if_neg (by omega)]
end Go.Proofs.Ytkddmiamdpbgiaa
