/- Joined texts: StRow, RowSet, StPut, TupP. -/
import Derived.Test.YteibkaonofkcbaaGreatScalT
import Derived.Test.YteibkaonofkcbaaGreatTell
import Derived.Test.YteibkaonofkcbaaGreatTupJoinA
import Derived.Test.YteibkaonofkcbaaGreatSegs
import Derived.Laws.IdiomCopy
set_option linter.unusedSimpArgs false
set_option linter.unusedVariables false
namespace Go.Proofs.YteibkaonofkcbaaGreat
open Go.RowKit
set_option linter.unusedSimpArgs false
set_option linter.unusedVariables false
theorem flat_at {α β : Type} (f : α → List β) (n : Nat) : ∀ (ss : List α), (∀ s ∈ ss, (f s).length = n) → ∀ (i j : Nat) (hi : i < ss.length), j < n → (ss.flatMap f)[i * n + j]? = (f (ss[i]'hi))[j]? := by
  intro ss
  induction ss with
  | nil => intro _ i j hi; simp at hi
  | cons p r ih =>
    intro h i j hi hj
    have hp := h p (by simp)
    rw [List.flatMap_cons]
    cases i with
    | zero => rw [List.getElem?_append_left (by omega)]; simp
    | succ i =>
      have e : (i + 1) * n + j = n + (i * n + j) := by rw [Nat.succ_mul]; omega
      rw [List.getElem?_append_right (by omega), hp, show (i + 1) * n + j - n = i * n + j by omega]
      exact ih (fun q hq => h q (by simp [hq])) i j (by simpa using hi) hj
/-- A step: its kind, its three numbers, the cells of its two values. -/
structure St where
  k : Int
  i : Int
  j : Int
  m : Int
  r : List Value
def St.cells (s : St) : List Value := .int .i64 s.k :: .int .i64 s.i :: .int .i64 s.j :: .int .i64 s.m :: s.r
def St.ok (s : St) : Prop := s.r.length = 13 ∧ ∀ u ∈ s.r, u.oneCell' = true
theorem St.len {s : St} (h : s.ok) : s.cells.length = 17 := by simp [St.cells, h.1]
theorem St.one {s : St} (h : s.ok) : ∀ u ∈ s.cells, u.oneCell' = true := by
  intro u hu
  simp [St.cells] at hu
  rcases hu with rfl | rfl | rfl | rfl | hu
  · rfl
  · rfl
  · rfl
  · rfl
  · exact h.2 u hu
def RowSt (w : World) (B : Nat) (v : Value) (ss : List St) : Prop :=
  w.ownsRow B 35 17 v ss.length (ss.flatMap St.cells) ∧ ∀ s ∈ ss, s.ok
theorem RowSt.below {w w' : World} {B : Nat} {v : Value} {ss : List St} (h : RowSt w B v ss) (hb : Below w.heap.size w w') : RowSt w' B v ss := ⟨own_below h.1 hb, h.2⟩
theorem RowSt.nil (w : World) (B : Nat) : RowSt w B (.slice none 0 0) [] := ⟨World.ownsRow_nil _ _ _ _, fun p hp => by simp at hp⟩
theorem RowSt.only {w w' : World} {B : Nat} {S : Nat → Prop} {v : Value} {ss : List St} (h : RowSt w B v ss) (k : Only S w w') (hn : ∀ g, v.ownBlock = some g → ¬ S g) : RowSt w' B v ss := ⟨own_only h.1 k hn, h.2⟩
theorem RowSt.at {w : World} {B : Nat} {v : Value} {ss : List St} (h : RowSt w B v ss) (i : Nat) (hi : i < ss.length) :
    ∃ g cap, v = .slice (some ⟨g, 0, none⟩) ss.length cap ∧ g < w.heap.size ∧ B ≤ g ∧ ∀ j, j < 17 → w.cell? ⟨g, i * 17 + j, none⟩ = (ss[i]'hi).cells[j]? := by
  rcases h.1.2 with ⟨_, h0⟩ | ⟨g, cap, cur, rfl, hb, hh, _⟩
  · omega
  · refine ⟨g, cap, rfl, (Array.getElem?_eq_some_iff.1 hh).1, hb, fun j hj => ?_⟩
    have hf := flat_at St.cells 17 ss (fun s hs => St.len (h.2 s hs)) i j hi hj
    have hl : j < (ss[i]'hi).cells.length := by rw [St.len (h.2 _ (List.getElem_mem hi))]; exact hj
    rw [List.getElem?_eq_getElem hl] at hf ⊢
    have := h.1.cells (g := g) rfl (i * 17 + j) _ hf
    rw [Addr.add_lit] at this
    simpa using this
theorem Tryz.infoStep : (Tryz.prog.info? 35).map (fun i => (i.zero.map (·.cells.size), i.size, i.bytes)) = some (some 17, 17, 232) := by kernel_rfl
theorem Tryz.infoAnswer : (Tryz.prog.info? 37).map (fun i => (i.zero.map (·.cells.size), i.size, i.bytes)) = some (some 10, 10, 128) := by kernel_rfl
theorem info_three {o : Option TypeInfo} {n b : Nat} (h : o.map (fun i => (i.zero.map (·.cells.size), i.size, i.bytes)) = some (some n, n, b)) : ∃ i z, o = some i ∧ i.zero = some z ∧ z.cells.size = n ∧ i.size = n ∧ i.bytes = b := by
  obtain ⟨i, h1, h2⟩ := Option.map_eq_some_iff.1 h
  injection h2 with h2 h3
  injection h3 with h3 h4
  obtain ⟨z, h5, h6⟩ := Option.map_eq_some_iff.1 h2
  exact ⟨i, z, h1, h5, h6, h3, h4⟩
set_option maxHeartbeats 1000000 in
theorem wpList_append_st {ops : Array Oper} {rest : List Oper} {o : Oper} {a : Act} {Q : Exit → Act → World → Prop} {W : World} (hgd : o.guard = none) (s x : Operand)
    (ho : o.op = .call { callee := .builtin .append, args := #[s, x], argTypes := #[23, 23] })
    (w : World) (B : Nat) (v : Value) (ss : List St) (hr : RowSt w B v ss) (hs : a.eval s = v) (y : St) (hy : y.ok) (cs : Array Value) (hcs : cs.toList = y.cells)
    (hx : a.eval x = .slice (some ⟨w.heap.size, 0, none⟩) 1 1) (hW : W = w.alloc (.cells cs 35)) (hlen : ss.length ≤ 1000) (hB : B ≤ w.heap.size)
    (h : ∀ v' w', RowSt w' B v' (ss ++ [y]) → Below B w w' → w.grownBy w' v.ownBlock → wpList Tryz.prog ops Q rest (a.put o.dst v') w') : wpList Tryz.prog ops Q (o :: rest) a W := by
  obtain ⟨i0, z, hi0, hz0, hz1, hz2, hz3⟩ := info_three Tryz.infoStep
  have hc : cs = y.cells.toArray := by rw [← hcs]
  refine wpList_append_row hgd s x 23 ho w B 35 i0 z 232 17 Tryz.underlying23 hi0 hz0 hz2 hz3 hz1 (by decide) v ss.length _ hr.1 hs y.cells (St.len hy) (St.one hy) hx (by rw [hW, hc]) (by unfold maxLen; omega) (by omega) hB ?_
  intro v' w' hown hb hg
  refine h v' w' ⟨?_, fun q hq => ?_⟩ hb hg
  · rw [List.length_append, List.flatMap_append]
    simpa using hown
  · rcases List.mem_append.1 hq with hq | hq
    · exact hr.2 q hq
    · simp at hq; subst hq; exact hy
/-- What an answer's value is: one value (none, if nothing is told), or a row of them. -/
inductive AV where
  | one (s : Sx)
  | many (l : List Sx)
structure AA where
  is : Bool
  n : Int
  v : AV
/-- An answer's value, 'kd' being the kind of a row of values. -/
def AVal (kd : Int) (w : World) (v : Value) : AV → Prop
  | .one s => RVal w v s
  | .many l => ∃ q m c ps, v = pv kd false none 0 0 0 ⟨#[]⟩ q m c ∧ RowR w 0 (.slice q m c) ps ∧ ps.length = m ∧ ps.map (·.2) = l
theorem AVal.form {kd : Int} {w : World} {v : Value} {a : AV} (h : AVal kd w v a) : ∃ k neg a n c b tx ka kn kc, v = pv k neg a n c b tx ka kn kc := by
  cases a with
  | one s => obtain ⟨neg, a, n, c, b, tx, rfl⟩ := RVal.form h; exact ⟨_, _, _, _, _, _, _, _, _, _, rfl⟩
  | many l => obtain ⟨q, m, c, ps, rfl, _⟩ := h; exact ⟨_, _, _, _, _, _, _, _, _, _, rfl⟩
theorem RowR.apart {S : Nat → Prop} {w w' : World} {B : Nat} {v : Value} {ps : List (Value × Sx)} (h : RowR w B v ps) (hs : ∀ g, S g → g < w.heap.size → ∃ t cs, Blk w g t cs ∧ 5 ≠ t ∧ 33 ≠ t) (k : Only S w w') : RowR w' B v ps := by
  refine ⟨own_only h.1 k fun g hg hS => ?_, fun p hp => (h.2 p hp).apart (fun g hS hg => ?_) k⟩
  · obtain ⟨cs0, hb0⟩ := Blk.of_own (g := g) (n := 0) (c := 0) h.1 hg
    obtain ⟨t, cs, hb, _, h2⟩ := hs g hS hb0.lt
    exact own_ne_blk h.1 hb h2 g hg rfl
  · obtain ⟨t, cs, hb, h1, _⟩ := hs g hS hg
    exact ⟨t, cs, hb, h1⟩
theorem AVal.apart {S : Nat → Prop} {kd : Int} {w w' : World} {v : Value} {a : AV} (h : AVal kd w v a) (hs : ∀ g, S g → g < w.heap.size → ∃ t cs, Blk w g t cs ∧ 5 ≠ t ∧ 33 ≠ t) (k : Only S w w') : AVal kd w' v a := by
  cases a with
  | one s =>
    refine RVal.apart h (fun g hS hg => ?_) k
    obtain ⟨t, cs, hb, h1, _⟩ := hs g hS hg
    exact ⟨t, cs, hb, h1⟩
  | many l =>
    obtain ⟨q, m, c, ps, hv, hr, h1, h2⟩ := h
    exact ⟨q, m, c, ps, hv, hr.apart hs k, h1, h2⟩
theorem AVal.below {kd : Int} {w w' : World} {v : Value} {a : AV} (h : AVal kd w v a) (hb : Below w.heap.size w w') : AVal kd w' v a :=
  h.apart (S := fun _ => False) (fun _ h => h.elim) (Only.of_below hb)
/-- An answer's ten cells. -/
def RAns (kd : Int) (w : World) (c : List Value) (a : AA) : Prop :=
  ∃ v, AVal kd w v a.v ∧ c = .bool true :: .bool a.is :: .int .i64 a.n :: (c6 v ++ [.slice none 0 0])
theorem RAns.apart {S : Nat → Prop} {kd : Int} {w w' : World} {c : List Value} {a : AA} (h : RAns kd w c a) (hs : ∀ g, S g → g < w.heap.size → ∃ t cs, Blk w g t cs ∧ 5 ≠ t ∧ 33 ≠ t) (k : Only S w w') : RAns kd w' c a := by
  obtain ⟨v, hv, hc⟩ := h
  exact ⟨v, hv.apart hs k, hc⟩
theorem RAns.below {kd : Int} {w w' : World} {c : List Value} {a : AA} (h : RAns kd w c a) (hb : Below w.heap.size w w') : RAns kd w' c a := by
  obtain ⟨v, hv, hc⟩ := h
  exact ⟨v, hv.below hb, hc⟩
theorem RAns.ten {kd : Int} {w : World} {c : List Value} {a : AA} (h : RAns kd w c a) : c.length = 10 ∧ ∀ u ∈ c, u.oneCell' = true := by
  obtain ⟨v, hv, rfl⟩ := h
  obtain ⟨k, neg, aa, n, cc, b, tx, ka, kn, kc, rfl⟩ := hv.form
  refine ⟨rfl, fun u hu => ?_⟩
  simp [c6, pv] at hu
  rcases hu with rfl | rfl | rfl | rfl | rfl | rfl | rfl | rfl | rfl | rfl <;> rfl
/-- Answers in a row of their own. -/
def RowA (kd : Nat → Int) (w : World) (B : Nat) (v : Value) (al : List (List Value × AA)) : Prop :=
  w.ownsRow B 37 10 v al.length (al.flatMap (·.1)) ∧ ∀ i a, al[i]? = some a → RAns (kd i) w a.1 a.2
theorem RowA.nil (kd : Nat → Int) (w : World) (B : Nat) : RowA kd w B (.slice none 0 0) [] := ⟨World.ownsRow_nil _ _ _ _, fun i a h => by simp at h⟩
theorem RowA.below {kd : Nat → Int} {w w' : World} {B : Nat} {v : Value} {al : List (List Value × AA)} (h : RowA kd w B v al) (hb : Below w.heap.size w w') : RowA kd w' B v al := ⟨own_below h.1 hb, fun i a ha => (h.2 i a ha).below hb⟩
theorem RowA.apart {S : Nat → Prop} {kd : Nat → Int} {w w' : World} {B : Nat} {v : Value} {al : List (List Value × AA)} (h : RowA kd w B v al) (hs : ∀ g, S g → g < w.heap.size → ∃ t cs, Blk w g t cs ∧ 5 ≠ t ∧ 33 ≠ t ∧ 37 ≠ t) (k : Only S w w') : RowA kd w' B v al := by
  refine ⟨own_only h.1 k fun g hg hS => ?_, fun i a ha => (h.2 i a ha).apart (fun g hS hg => ?_) k⟩
  · obtain ⟨cs0, hb0⟩ := Blk.of_own (g := g) (n := 0) (c := 0) h.1 hg
    obtain ⟨t, cs, hb, _, _, h2⟩ := hs g hS hb0.lt
    exact own_ne_blk h.1 hb h2 g hg rfl
  · obtain ⟨t, cs, hb, h1, h2, _⟩ := hs g hS hg
    exact ⟨t, cs, hb, h1, h2⟩
theorem RowA.len {kd : Nat → Int} {w : World} {B : Nat} {v : Value} {al : List (List Value × AA)} (h : RowA kd w B v al) : ∀ a ∈ al, a.1.length = 10 := fun a ha => by
  obtain ⟨i, hi, rfl⟩ := List.mem_iff_getElem.1 ha
  exact ((h.2 i _ (List.getElem?_eq_getElem hi)).ten).1
/-- An answer's cells in its row. -/
theorem RowA.at {kd : Nat → Int} {w : World} {B : Nat} {v : Value} {al : List (List Value × AA)} (h : RowA kd w B v al) (i : Nat) (hi : i < al.length) :
    ∃ g cap, v = .slice (some ⟨g, 0, none⟩) al.length cap ∧ g < w.heap.size ∧ B ≤ g ∧ ∀ j, j < 10 → w.cell? ⟨g, i * 10 + j, none⟩ = (al[i]'hi).1[j]? := by
  rcases h.1.2 with ⟨_, h0⟩ | ⟨g, cap, cur, rfl, hb, hh, _⟩
  · omega
  · refine ⟨g, cap, rfl, (Array.getElem?_eq_some_iff.1 hh).1, hb, fun j hj => ?_⟩
    have hf := flat_at (fun a : List Value × AA => a.1) 10 al (fun a ha => h.len a ha) i j hi hj
    have hl : j < (al[i]'hi).1.length := by rw [h.len _ (List.getElem_mem hi)]; exact hj
    rw [List.getElem?_eq_getElem hl] at hf ⊢
    have := h.1.cells (g := g) rfl (i * 10 + j) _ hf
    rw [Addr.add_lit] at this
    simpa using this
set_option maxHeartbeats 1000000 in
theorem wpList_append_ans {ops : Array Oper} {rest : List Oper} {o : Oper} {a : Act} {Q : Exit → Act → World → Prop} {W : World} (hgd : o.guard = none) (s x : Operand)
    (ho : o.op = .call { callee := .builtin .append, args := #[s, x], argTypes := #[25, 25] })
    (w : World) (B : Nat) (v : Value) (kd : Nat → Int) (al : List (List Value × AA)) (hr : RowA kd w B v al) (hs : a.eval s = v) (y : List Value) (z : AA) (hy : RAns (kd al.length) w y z) (cs : Array Value) (hcs : cs.toList = y)
    (hx : a.eval x = .slice (some ⟨w.heap.size, 0, none⟩) 1 1) (hW : W = w.alloc (.cells cs 37)) (hlen : al.length ≤ 1000) (hB : B ≤ w.heap.size)
    (h : ∀ v' w', RowA kd w' B v' (al ++ [(y, z)]) → Below B w w' → w.grownBy w' v.ownBlock → wpList Tryz.prog ops Q rest (a.put o.dst v') w') : wpList Tryz.prog ops Q (o :: rest) a W := by
  obtain ⟨i0, z0, hi0, hz0, hz1, hz2, hz3⟩ := info_three Tryz.infoAnswer
  have hc : cs = y.toArray := by rw [← hcs]
  refine wpList_append_row hgd s x 25 ho w B 37 i0 z0 128 10 Tryz.underlying25 hi0 hz0 hz2 hz3 hz1 (by decide) v al.length _ hr.1 hs y hy.ten.1 hy.ten.2 hx (by rw [hW, hc]) (by unfold maxLen; omega) (by omega) hB ?_
  intro v' w' hown hb hg
  have hO : Only (fun g => v.ownBlock = some g) w w' := (Only.refl _ w).grown hg (fun k hk => .inl hk)
  have hS : ∀ g, v.ownBlock = some g → g < w.heap.size → ∃ t cs, Blk w g t cs ∧ 5 ≠ t ∧ 33 ≠ t := fun g hg _ => by
    obtain ⟨cs0, hb0⟩ := Blk.of_own (g := g) (n := 0) (c := 0) hr.1 hg
    exact ⟨_, cs0, hb0, by decide, by decide⟩
  refine h v' w' ⟨?_, fun i q hq => ?_⟩ hb hg
  · rw [List.length_append, List.flatMap_append]
    simpa using hown
  · by_cases hi : i < al.length
    · rw [List.getElem?_append_left hi] at hq
      exact (hr.2 i q hq).apart hS hO
    · have hil : i = al.length := by
        have := (List.getElem?_eq_some_iff.1 hq).1
        simp at this
        omega
      subst hil
      simp at hq
      subst hq
      exact hy.apart hS hO
/-- One cell of a row of one's own written. -/
theorem own_set {w : World} {B : Nat} {e : TypeId} {size : Nat} {v : Value} {n : Nat} {xs : List Value} (h : w.ownsRow B e size v n xs) {g : Nat} (hg : v.ownBlock = some g) (i : Nat) (u : Value) : (w.setCell ⟨g, i, none⟩ u).ownsRow B e size v n (xs.set i u) := by
  refine ⟨by rw [List.length_set]; exact h.1, ?_⟩
  rcases h.2 with ⟨rfl, _⟩ | ⟨g', cap, cur, rfl, hb, hh, h1, h2, h3, h4⟩
  · simp [Value.ownBlock] at hg
  · simp only [Value.ownBlock, Option.some.injEq] at hg
    subst hg
    refine .inr ⟨g', cap, cur.setIfInBounds i u, rfl, hb, Blk.put hh i u, h1, h2, by simpa using h3, ?_⟩
    rw [Array.toList_setIfInBounds, List.take_set, h4]
end Go.Proofs.YteibkaonofkcbaaGreat
namespace Go.Proofs.YteibkaonofkcbaaGreat
open Go.RowKit
def z6 : List Value := [.int .i64 0, .bool false, .slice none 0 0, .int .u64 0, .string ⟨#[]⟩, .slice none 0 0]
set_option maxHeartbeats 1000000 in
theorem wp_append_zero {o : Oper} {a : Act} {K : Act → World → Prop} {Q : Exit → Act → World → Prop} (w : World) (s x : Operand)
    (ho : o.op = .call { callee := .builtin .append, args := #[s, x], argTypes := #[22, 22] })
    (B : Nat) (v : Value) (n : Nat) (xs : List Value) (hr : w.ownsRow B 33 6 v n xs) (hs : a.eval s = v) (g : Nat) (hp : Blk w g 33 z6.toArray) (hx : a.eval x = .slice (some ⟨g, 0, none⟩) 1 1)
    (hlen : n ≤ 1000) (hB : B ≤ w.heap.size)
    (h : ∀ v' w', w'.ownsRow B 33 6 v' (n + 1) (xs ++ z6) → Below B w w' → w.grownBy w' v.ownBlock → K (a.put o.dst v') w') : o.wp Tryz.prog a w K Q := by
  obtain ⟨i0, hi0, hz0, hz1, hz2⟩ := info_parts Tryz.infoVal
  obtain ⟨v', w', hrun, hown', hg, _⟩ := run_append_own (P := Tryz.prog) w B 22 o.type 33 i0 _ 6 88 Tryz.underlying22 hi0 hz0 hz1 hz2 rfl (by decide) v n _ hr ⟨g, 0, none⟩ 1 1 z6 rfl
    (fun j y hj => by rw [Addr.add_lit, Nat.zero_add, hp.cell j]; simpa using hj)
    (fun u hu => by simp [z6] at hu; rcases hu with rfl | rfl | rfl | rfl | rfl | rfl <;> rfl) (by unfold maxLen; omega) (by omega) hB
  unfold Oper.wp execOp
  simp only [ho, resolve, invoke, builtin, Sem.run_bind, Sem.run_pure, Result.andThen_ok, List.map_toArray, List.map_cons, List.map_nil, hs, hx, hrun]
  exact h v' w' hown' ((Below.refl B w).grown hg hB fun k hk => (hr.lt k hk).1) hg
/-- The last element's cells written. -/
theorem own_tail {w : World} {B g n : Nat} {e : TypeId} {v : Value} {xs : List Value} {d0 d1 d2 d3 d4 d5 : Value} (h : w.ownsRow B e 6 v (n + 1) (xs ++ z6)) (hx : xs.length = n * 6) (hg : v.ownBlock = some g) :
    World.ownsRow ((((((w.setCell ⟨g, n * 6, none⟩ d0).setCell ⟨g, n * 6 + 1, none⟩ d1).setCell ⟨g, n * 6 + 2, none⟩ d2).setCell ⟨g, n * 6 + 3, none⟩ d3).setCell ⟨g, n * 6 + 4, none⟩ d4).setCell ⟨g, n * 6 + 5, none⟩ d5) B e 6 v (n + 1) (xs ++ [d0, d1, d2, d3, d4, d5]) := by
  have h6 := own_set (own_set (own_set (own_set (own_set (own_set h hg (n * 6) d0) hg (n * 6 + 1) d1) hg (n * 6 + 2) d2) hg (n * 6 + 3) d3) hg (n * 6 + 4) d4) hg (n * 6 + 5) d5
  have e : ((((((xs ++ z6).set (n * 6) d0).set (n * 6 + 1) d1).set (n * 6 + 2) d2).set (n * 6 + 3) d3).set (n * 6 + 4) d4).set (n * 6 + 5) d5 = xs ++ [d0, d1, d2, d3, d4, d5] := by
    rw [← hx]
    simp [z6, List.set_append]
  rw [e] at h6
  exact h6
theorem tail_only {S : Nat → Prop} {a w : World} {g k : Nat} {d0 d1 d2 d3 d4 d5 : Value} (h : Only S a w) (hg : S g ∨ a.heap.size ≤ g) :
    Only S a ((((((w.setCell ⟨g, k, none⟩ d0).setCell ⟨g, k + 1, none⟩ d1).setCell ⟨g, k + 2, none⟩ d2).setCell ⟨g, k + 3, none⟩ d3).setCell ⟨g, k + 4, none⟩ d4).setCell ⟨g, k + 5, none⟩ d5) :=
  (((((h.setCell (p := ⟨g, k, none⟩) hg d0).setCell (p := ⟨g, k + 1, none⟩) hg d1).setCell (p := ⟨g, k + 2, none⟩) hg d2).setCell (p := ⟨g, k + 3, none⟩) hg d3).setCell (p := ⟨g, k + 4, none⟩) hg d4).setCell (p := ⟨g, k + 5, none⟩) hg d5
/-- The last element's six cells, as they stand ahead of that. -/
theorem own_last {w : World} {B n : Nat} {e : TypeId} {v : Value} {xs : List Value} (h : w.ownsRow B e 6 v (n + 1) (xs ++ z6)) (hx : xs.length = n * 6) :
    ∃ g c, v = .slice (some ⟨g, 0, none⟩) (n + 1) c ∧ B ≤ g ∧ g < w.heap.size ∧ (∃ cs, Blk w g e cs) ∧
      (w.cell? ⟨g, n * 6, none⟩ = some (.int .i64 0) ∧ w.cell? ⟨g, n * 6 + 1, none⟩ = some (.bool false) ∧ w.cell? ⟨g, n * 6 + 2, none⟩ = some (.slice none 0 0) ∧ w.cell? ⟨g, n * 6 + 3, none⟩ = some (.int .u64 0) ∧ w.cell? ⟨g, n * 6 + 4, none⟩ = some (.string ⟨#[]⟩) ∧ w.cell? ⟨g, n * 6 + 5, none⟩ = some (.slice none 0 0)) ∧
      (w.frozen? ⟨g, n * 6, none⟩ = false ∧ w.frozen? ⟨g, n * 6 + 1, none⟩ = false ∧ w.frozen? ⟨g, n * 6 + 2, none⟩ = false ∧ w.frozen? ⟨g, n * 6 + 3, none⟩ = false ∧ w.frozen? ⟨g, n * 6 + 4, none⟩ = false ∧ w.frozen? ⟨g, n * 6 + 5, none⟩ = false) := by
  rcases h.2 with ⟨_, h0⟩ | ⟨g, cap, cur, rfl, hb, hh, _⟩
  · omega
  · have hc : ∀ k u, k < 6 → z6[k]? = some u → w.cell? ⟨g, n * 6 + k, none⟩ = some u := fun k u hk hu => by
      have := h.cells (g := g) rfl (n * 6 + k) u (by rw [List.getElem?_append_right (by omega), hx, show n * 6 + k - n * 6 = k by omega]; exact hu)
      rw [Addr.add_lit] at this
      simpa using this
    have hf : ∀ k, w.frozen? ⟨g, k, none⟩ = false := fun k => Blk.frozen hh k
    exact ⟨g, cap, rfl, hb, (Array.getElem?_eq_some_iff.1 hh).1, ⟨cur, hh⟩, ⟨hc 0 _ (by omega) rfl, hc 1 _ (by omega) rfl, hc 2 _ (by omega) rfl, hc 3 _ (by omega) rfl, hc 4 _ (by omega) rfl, hc 5 _ (by omega) rfl⟩, hf _, hf _, hf _, hf _, hf _, hf _⟩
end Go.Proofs.YteibkaonofkcbaaGreat
namespace Go.Proofs.YteibkaonofkcbaaGreat
open Go.RowKit
/-- All cells of a block written. -/
def putAll (w : World) (g : Nat) (us : List Value) : World := w.setCells g 0 us
theorem blk_putCells {g : Nat} {t : TypeId} : ∀ (us : List Value) (i : Nat) (w : World) (pre old : List Value), pre.length = i → old.length = us.length → Blk w g t (pre ++ old).toArray → Blk (w.setCells g i us) g t (pre ++ us).toArray
  | [], i, w, pre, old, _, ho, h => by
    have : old = [] := List.eq_nil_of_length_eq_zero (by simpa using ho)
    subst this
    exact h
  | u :: r, i, w, pre, old, hp, ho, h => by
    match old, ho with
    | o :: q, ho =>
      rw [World.setCells]
      have h1 := h.put i u
      have e : ((pre ++ o :: q).toArray.setIfInBounds i u) = ((pre ++ [u]) ++ q).toArray := by
        apply Array.toList_inj.1
        simp [List.set_append, hp]
      rw [e] at h1
      have h2 := blk_putCells r (i + 1) _ (pre ++ [u]) q (by simp [hp]) (by simpa using ho) h1
      simpa using h2
theorem Blk.putAll {w : World} {g : Nat} {t : TypeId} {cs : Array Value} (h : Blk w g t cs) (us : List Value) (hl : cs.size = us.length) : Blk (putAll w g us) g t us.toArray := by
  have := blk_putCells us 0 w [] cs.toList rfl (by simpa using hl) (by simpa using h)
  unfold Go.Proofs.YteibkaonofkcbaaGreat.putAll
  simpa using this
theorem Only.putCells {S : Nat → Prop} {a : World} {g : Nat} (hg : S g ∨ a.heap.size ≤ g) : ∀ (us : List Value) (i : Nat) (w : World), Only S a w → Only S a (w.setCells g i us)
  | [], _, _, h => h
  | u :: r, i, w, h => by
    rw [World.setCells]
    exact Only.putCells hg r (i + 1) _ (h.setCell (p := ⟨g, i, none⟩) hg u)
theorem Only.putAll {S : Nat → Prop} {a w : World} {g : Nat} (h : Only S a w) (hg : S g ∨ a.heap.size ≤ g) (us : List Value) : Only S a (putAll w g us) := Only.putCells hg us 0 w h
theorem below_putCells {B g : Nat} {a : World} (hg : B ≤ g) : ∀ (us : List Value) (i : Nat) (w : World), Below B a w → Below B a (w.setCells g i us)
  | [], _, _, h => h
  | u :: r, i, w, h => by
    rw [World.setCells]
    exact below_putCells hg r (i + 1) _ (h.setCell (p := ⟨g, i, none⟩) hg u)
theorem below_putAll {B g : Nat} {a w : World} (hb : Below B a w) (hg : B ≤ g) (us : List Value) : Below B a (putAll w g us) := below_putCells hg us 0 w hb
theorem run_putAll {P : Program} {w : World} {g : Nat} {t : TypeId} {cs : Array Value} (h : Blk w g t cs) (us : List Value) (hl : cs.size = us.length) (h1 : ∀ v ∈ us, v.oneCell' = true) : (storeCells ⟨g, 0, none⟩ us).run P w = .ok () (putAll w g us) := by
  have := run_storeCells_cells (P := P) g 0 us 0 w (fun j hj => ?_) (fun j _ => h.frozen _) h1
  · simpa [Go.Proofs.YteibkaonofkcbaaGreat.putAll] using this
  · have e := h.cell (0 + 0 + j)
    rw [e, Array.getElem?_eq_getElem (by omega)]
    rfl
/-- A box of a step's size. -/
def Box17 (w : World) (g : Nat) : Prop := ∃ t cs, Blk w g t cs ∧ cs.size = 17
/-- The store of a step, as the walk meets it. -/
theorem store_step {P : Program} {w : World} {g : Nat} (h : Box17 w g) {vs : List Value} (hl : vs.length = 17) (h1 : vs.all (·.oneCell') = true) :
    (storeCells ⟨g, 0, none⟩ vs).run P w = .ok () (putAll w g vs) := by
  obtain ⟨t, cs, h, hc⟩ := h
  exact run_putAll h _ (by rw [hc, hl]) fun v hv => List.all_eq_true.1 h1 v hv
end Go.Proofs.YteibkaonofkcbaaGreat
namespace Go.Proofs.YteibkaonofkcbaaGreat
open Go.RowKit
/-- The places that a slice takes. -/
def cutI : Nat → Int → Int → Int → List Nat
  | 0, _, _, _ => []
  | k + 1, i, e, s => if (0 < s ∧ i < e) ∨ (s < 0 ∧ e < i) then i.toNat :: cutI k (i + s) e s else []
def Bnd (n : Nat) (i e s : Int) : Prop := (0 < s ∧ s ≤ 5 ∧ 0 ≤ i ∧ i ≤ e ∧ e ≤ (n : Int)) ∨ (s < 0 ∧ -4 ≤ s ∧ -1 ≤ e ∧ e ≤ i ∧ i < (n : Int))
/-- A slice's elements. -/
def cutX (l : List Sx) (k : Nat) (i e s : Int) : List Sx := (cutI k i e s).map fun j => l.getD j .none
/-- What holds ahead of each round of a slice's loop. -/
def CutIn (n k : Nat) (i e s : Int) : Prop := (0 < s ∧ s ≤ 5 ∧ 0 ≤ i ∧ i ≤ e + 5 ∧ e ≤ (n : Int) ∧ e - i ≤ k) ∨ (s < 0 ∧ -4 ≤ s ∧ -1 ≤ e ∧ e ≤ i + 4 ∧ i < (n : Int) ∧ i - e ≤ k)
theorem Bnd.cutIn {n : Nat} {i e s : Int} (h : Bnd n i e s) (hn : n ≤ 8) : CutIn n 9 i e s := by
  rcases h with ⟨h1, h2, h3, h4, h5⟩ | ⟨h1, h2, h3, h4, h5⟩
  · exact .inl ⟨h1, h2, h3, by omega, h5, by omega⟩
  · exact .inr ⟨h1, h2, h3, by omega, h5, by omega⟩
theorem CutIn.more {n k : Nat} {i e s : Int} (h : CutIn n k i e s) (hc : (0 < s ∧ i < e) ∨ (s < 0 ∧ e < i)) : ∃ (j q : Nat), i = (j : Int) ∧ j < n ∧ k = q + 1 ∧ CutIn n q (i + s) e s ∧ ∀ l : List Sx, cutX l k i e s = l.getD j .none :: cutX l q (i + s) e s := by
  rcases h with ⟨h1, h2, h3, h4, h5, h6⟩ | ⟨h1, h2, h3, h4, h5, h6⟩
  · refine ⟨i.toNat, k - 1, by omega, by omega, by omega, .inl ⟨h1, h2, by omega, by omega, h5, by omega⟩, fun l => ?_⟩
    have e1 : k = (k - 1) + 1 := by omega
    rw [e1]
    simp [cutX, cutI, hc]
  · refine ⟨i.toNat, k - 1, by omega, by omega, by omega, .inr ⟨h1, h2, h3, by omega, by omega, by omega⟩, fun l => ?_⟩
    have e1 : k = (k - 1) + 1 := by omega
    rw [e1]
    simp [cutX, cutI, hc]
theorem cutX_end {l : List Sx} {k : Nat} {i e s : Int} (hc : ¬ ((0 < s ∧ i < e) ∨ (s < 0 ∧ e < i))) : cutX l k i e s = [] := by
  cases k with
  | zero => rfl
  | succ k => simp [cutX, cutI, hc]
/-- A slice with step 1 is a part. -/
theorem cutX_one (l : List Sx) : ∀ (k : Nat) (i j : Nat), i ≤ j → j ≤ l.length → j - i ≤ k → cutX l k (i : Int) (j : Int) 1 = (l.drop i).take (j - i)
  | 0, i, j, h1, h2, h3 => by
    have : j - i = 0 := by omega
    rw [this]
    rfl
  | k + 1, i, j, h1, h2, h3 => by
    by_cases h : i < j
    · have hc : (0 < (1 : Int) ∧ (i : Int) < (j : Int)) ∨ ((1 : Int) < 0 ∧ (j : Int) < (i : Int)) := .inl ⟨by omega, by omega⟩
      have ih := cutX_one l k (i + 1) j (by omega) h2 (by omega)
      have hi : i < l.length := by omega
      have e2 : j - i = (j - (i + 1)) + 1 := by omega
      rw [e2, List.drop_eq_getElem_cons hi, List.take_succ_cons, ← ih]
      have e1 : ((i : Int) + 1) = ((i + 1 : Nat) : Int) := by omega
      rw [← e1]
      simp [cutX, cutI, h, hi]
    · have : j - i = 0 := by omega
      rw [this, List.take_zero, cutX_end]
      omega
/-- One step over a tuple of these elements: the iterators' places ahead of it and behind it (none: done), what it answers. -/
inductive StepR (l : List Sx) : List (Option Nat) → St → AA → List (Option Nat) → Prop
  | index (at' : List (Option Nat)) (i : Nat) (j m : Int) (r : List Value) (h : i < l.length) : StepR l at' ⟨2, i, j, m, r⟩ ⟨false, 0, .one (l[i]'h)⟩ at'
  | slice (at' : List (Option Nat)) (i j m : Int) (r : List Value) (h : Bnd l.length i j m) : StepR l at' ⟨27, i, j, m, r⟩ ⟨false, 0, .many (cutX l 9 i j m)⟩ at'
  | len (at' : List (Option Nat)) (i j m : Int) (r : List Value) : StepR l at' ⟨4, i, j, m, r⟩ ⟨false, (l.length : Int), .one .none⟩ at'
  | truth (at' : List (Option Nat)) (i j m : Int) (r : List Value) : StepR l at' ⟨11, i, j, m, r⟩ ⟨decide (0 < l.length), 0, .one .none⟩ at'
  | opn (at' : List (Option Nat)) (i j m : Int) (r : List Value) : StepR l at' ⟨5, i, j, m, r⟩ ⟨false, (at'.length : Int), .one .none⟩ (at' ++ [some 0])
  | done (at' : List (Option Nat)) (i c : Nat) (j m : Int) (r : List Value) (h : at'[i]? = some (some c)) : StepR l at' ⟨7, i, j, m, r⟩ ⟨false, 0, .one .none⟩ (at'.set i none)
  | nextN (at' : List (Option Nat)) (i c : Nat) (j m : Int) (r : List Value) (h : at'[i]? = some (some c)) (hc : l.length ≤ c) : StepR l at' ⟨6, i, j, m, r⟩ ⟨false, 0, .one .none⟩ at'
  | nextY (at' : List (Option Nat)) (i c : Nat) (j m : Int) (r : List Value) (h : at'[i]? = some (some c)) (hc : c < l.length) : StepR l at' ⟨6, i, j, m, r⟩ ⟨true, 0, .one (l[c]'hc)⟩ (at'.set i (some (c + 1)))
/-- A script's steps, what they answer, and the iterators behind it. -/
def Runs (l : List Sx) (ss : List St) (al : List AA) (at' : List (Option Nat)) : Prop :=
  al.length = ss.length ∧ ∃ f : Nat → List (Option Nat), f 0 = [] ∧ f ss.length = at' ∧ ∀ i s a, ss[i]? = some s → al[i]? = some a → StepR l (f i) s a (f (i + 1))
theorem Runs.nil (l : List Sx) : Runs l [] [] [] := ⟨rfl, fun _ => [], rfl, rfl, fun i s a h => by simp at h⟩
theorem Runs.snoc {l : List Sx} {ss : List St} {al : List AA} {at' at2 : List (Option Nat)} {s : St} {a : AA} (h : Runs l ss al at') (hs : StepR l at' s a at2) : Runs l (ss ++ [s]) (al ++ [a]) at2 := by
  obtain ⟨hl, f, f0, f1, f2⟩ := h
  refine ⟨by simp [hl], fun i => if i ≤ ss.length then f i else at2, by simp [f0], by simp [Nat.not_succ_le_self], fun i s' a' h1 h2 => ?_⟩
  by_cases hi : i < ss.length
  · rw [List.getElem?_append_left hi] at h1
    rw [List.getElem?_append_left (by omega)] at h2
    have := f2 i s' a' h1 h2
    simpa [show i ≤ ss.length by omega, show i + 1 ≤ ss.length by omega] using this
  · have e : i = ss.length := by
      have := (List.getElem?_eq_some_iff.1 h1).1
      simp at this
      omega
    subst e
    rw [← hl] at h2
    simp at h1 h2
    subst h1 h2
    simpa [f1, Nat.not_succ_le_self] using hs
theorem StepR.length {l : List Sx} {at' at2 : List (Option Nat)} {s : St} {a : AA} (h : StepR l at' s a at2) : at2.length ≤ at'.length + 1 := by
  cases h <;> simp
/-- What an answer tells is of the tuple, or none. -/
def AV.of (l : List Sx) : AV → Prop
  | .one s => s ∈ l ∨ s = .none
  | .many r => r.length ≤ 9 ∧ ∀ s ∈ r, s ∈ l ∨ s = .none
theorem cutI_len : ∀ (k : Nat) (i e s : Int), (cutI k i e s).length ≤ k
  | 0, _, _, _ => Nat.le_refl _
  | k + 1, i, e, s => by
    unfold cutI
    split
    · have := cutI_len k (i + s) e s
      simp
      omega
    · simp
theorem StepR.of {l : List Sx} {at' at2 : List (Option Nat)} {s : St} {a : AA} (h : StepR l at' s a at2) : a.v.of l := by
  cases h with
  | index i j m r h => exact .inl (List.getElem_mem _)
  | nextY i c j m r h hc => exact .inl (List.getElem_mem _)
  | slice i j m r h =>
    refine ⟨by simpa [cutX] using cutI_len 9 i j m, fun s hs => ?_⟩
    obtain ⟨j', _, rfl⟩ := List.mem_map.1 hs
    rw [List.getD_eq_getElem?_getD]
    cases hq : l[j']? with
    | none => exact .inr rfl
    | some x => exact .inl (List.mem_of_getElem? hq)
  | _ => exact .inr rfl
/-- How many iterators are open. -/
def openN (at' : List (Option Nat)) : Nat := (at'.filter (·.isSome)).length
theorem openN_le (at' : List (Option Nat)) : openN at' ≤ at'.length := List.length_filter_le _ _
theorem openN_snoc (at' : List (Option Nat)) (c : Nat) : openN (at' ++ [some c]) = openN at' + 1 := by simp [openN]
theorem openN_set_some : ∀ (at' : List (Option Nat)) (i c d : Nat), at'[i]? = some (some c) → openN (at'.set i (some d)) = openN at'
  | [], i, c, d, h => by simp at h
  | x :: r, 0, c, d, h => by simp at h; subst h; simp [openN]
  | x :: r, i + 1, c, d, h => by
    have ih := openN_set_some r i c d (by simpa using h)
    unfold openN at ih ⊢
    cases x <;> simp [List.filter_cons, ih]
theorem openN_set_none : ∀ (at' : List (Option Nat)) (i c : Nat), at'[i]? = some (some c) → openN (at'.set i none) + 1 = openN at'
  | [], i, c, h => by simp at h
  | x :: r, 0, c, h => by simp at h; subst h; simp [openN]
  | x :: r, i + 1, c, h => by
    have ih := openN_set_none r i c (by simpa using h)
    unfold openN at ih ⊢
    cases x <;> simp [List.filter_cons] <;> omega
theorem openN_drop_none {at' : List (Option Nat)} {i : Nat} (h : at'[i]? = some none) : openN (at'.drop i) = openN (at'.drop (i + 1)) := by
  have hi : i < at'.length := (List.getElem?_eq_some_iff.1 h).1
  have he : at'[i] = none := (List.getElem?_eq_some_iff.1 h).2
  rw [List.drop_eq_getElem_cons hi, he]
  simp [openN]
theorem openN_drop_some {at' : List (Option Nat)} {i c : Nat} (h : at'[i]? = some (some c)) : openN (at'.drop i) = openN (at'.drop (i + 1)) + 1 := by
  have hi : i < at'.length := (List.getElem?_eq_some_iff.1 h).1
  have he : at'[i] = some c := (List.getElem?_eq_some_iff.1 h).2
  rw [List.drop_eq_getElem_cons hi, he]
  simp [openN]
end Go.Proofs.YteibkaonofkcbaaGreat
