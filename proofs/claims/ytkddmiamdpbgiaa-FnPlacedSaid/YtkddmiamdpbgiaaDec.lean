/- The table of places, read again. -/
import Derived.Test.YtkddmiamdpbgiaaGen
import Derived.Deep.RegionLaw
import Derived.Laws.BitsAllLaws
namespace Go.Proofs.Ytkddmiamdpbgiaa
open Go.RowKit
theorem step_append_row {P : Program} {ops : Array Oper} {o : Oper} {a : Act} {K : Act → World → Prop} {Q : Exit → Act → World → Prop} {E : Prop} {W : World} (hgd : o.guard = none) (s x : Operand) (t : TypeId)
    (ho : o.op = .call { callee := .builtin .append, args := #[s, x], argTypes := #[t, t] })
    (base : Nat) (e : TypeId) (i : TypeInfo) (z : Value) (bytes size : Nat) (ht : P.underlying t = some (.slice e)) (hi : P.info? e = some i) (hz : i.zero = some z)
    (hsize : i.size = size) (hby : i.bytes = bytes) (hzs : z.cells.size = size) (hs0 : 0 < size)
    (v : Value) (n : Nat) (xs : List Value) (hown : W.ownsRow base e size v n xs) (hs : a.eval s = v) (us : List Value) (hus : us.length = size) (hone : ∀ u ∈ us, u.oneCell' = true) (N : Nat) (hN : Blk W N e us.toArray)
    (hx : a.eval x = .slice (some ⟨N, 0, none⟩) 1 1)
    (h63 : n + 1 ≤ maxLen) (hbytes : (n + 1) * bytes ≤ 140737488355328) (hbase : base ≤ W.heap.size)
    (h : ∀ v' w', w'.ownsRow base e size v' (n + 1) (xs ++ us) → Below base W w' → W.grownBy w' v.ownBlock → K (a.put o.dst v') w') :
    if Region.wanted o (yielded ops a.tmps) = true then Oper.wp P o a W K Q else E := by
  have hw : Region.wanted o (yielded ops a.tmps) = true := by simp [Region.wanted, hgd]
  rw [if_pos hw]
  refine wp_append_own _ s x t ho base e i z size bytes ht hi hz hsize hby hzs hs0 v n xs hs hown ⟨N, 0, none⟩ 1 1 us hx (by simp [hus]) ?_ hone h63 hbytes hbase ?_
  · intro j y hj
    have hc := hN.cell j
    have e1 : (⟨N, 0, none⟩ : Addr).add j = ⟨N, j, none⟩ := by
      by_cases h0 : j = 0
      · subst h0; rfl
      · simp [Addr.add, h0]
    rw [e1, hc]
    simpa using hj
  · intro v' w' hown' hg _
    exact h v' w' hown' ((Below.refl base W).grown hg hbase fun k hk => (hown.lt k hk).1) hg
/-- The cells of places. -/
def flat3 (l : List (Nat × Int × Int)) : List Value := (l.map fun x => [Value.int .u32 (x.1 : Int), .int .i32 x.2.1, .int .i32 x.2.2]).flatten
theorem flat3_more (l : List (Nat × Int × Int)) (p : Nat) (ln c : Int) : flat3 (l ++ [(p, ln, c)]) = flat3 l ++ [Value.int .u32 (p : Int), .int .i32 ln, .int .i32 c] := by simp [flat3]
theorem Try.infoPL : (Try.prog.info? 116).map (fun i => (i.zero, i.size, i.bytes)) = some (some (.agg #[.int .u32 0, .int .i32 0, .int .i32 0]), 3, 12) := by kernel_rfl
theorem take_set3 (l xs : List Value) (m : Nat) (a b c : Value) (h : l.take m = xs) (hl : m + 3 ≤ l.length) : (((l.set m a).set (m + 1) b).set (m + 2) c).take (m + 3) = xs ++ [a, b, c] := by
  subst h
  apply List.ext_getElem
  · simp; omega
  · intro i h1 h2
    simp only [List.getElem_take, List.getElem_set]
    by_cases e : i < m
    · rw [if_neg (by omega), if_neg (by omega), if_neg (by omega), List.getElem_append_left (by simp; omega)]
      simp
    · rw [List.getElem_append_right (by simp; omega)]
      simp only [List.length_take, Nat.min_eq_left (show m ≤ l.length by omega)]
      simp only [List.length_take, List.length_set] at h1
      have : i = m ∨ i = m + 1 ∨ i = m + 2 := by omega
      rcases this with rfl | rfl | rfl
      · simp
      · simp
      · simp
/-- Block R holds a table of places, with room for n. -/
def LntAt (w : World) (R n : Nat) (places : List (Nat × Int × Int)) : Prop := ∃ cur : Array Value, Blk w R 116 cur ∧ cur.size = 3 * n ∧ cur.toList.take (3 * places.length) = flat3 places ∧ places.length ≤ n
theorem LntAt.only {w w' : World} {R n : Nat} {S : Nat → Prop} {places : List (Nat × Int × Int)} (h : LntAt w R n places) (k : Only S w w') (hs : ¬ S R) : LntAt w' R n places := by
  obtain ⟨cur, h1, h2⟩ := h
  exact ⟨cur, h1.only k hs, h2⟩
theorem flat3_at (l : List (Nat × Int × Int)) (i : Nat) (h : i < l.length) : (flat3 l)[i * 3]? = some (.int .u32 ((l[i]'h).1 : Int)) ∧ (flat3 l)[i * 3 + 1]? = some (.int .i32 (l[i]'h).2.1) ∧ (flat3 l)[i * 3 + 2]? = some (.int .i32 (l[i]'h).2.2) := by
  induction l generalizing i with
  | nil => simp at h
  | cons x xs ih =>
    have e : flat3 (x :: xs) = [Value.int .u32 (x.1 : Int), .int .i32 x.2.1, .int .i32 x.2.2] ++ flat3 xs := by simp [flat3]
    rw [e]
    cases i with
    | zero => exact ⟨rfl, rfl, rfl⟩
    | succ i =>
      have := ih i (by simpa using h)
      refine ⟨?_, ?_, ?_⟩
      · rw [List.getElem?_append_right (by simp; omega)]; simpa [show (i + 1) * 3 - 3 = i * 3 by omega] using this.1
      · rw [List.getElem?_append_right (by simp; omega)]; simpa [show (i + 1) * 3 + 1 - 3 = i * 3 + 1 by omega] using this.2.1
      · rw [List.getElem?_append_right (by simp; omega)]; simpa [show (i + 1) * 3 + 2 - 3 = i * 3 + 2 by omega] using this.2.2
theorem flat3_len (l : List (Nat × Int × Int)) : (flat3 l).length = 3 * l.length := by
  induction l with
  | nil => rfl
  | cons x xs ih =>
    have e : flat3 (x :: xs) = [Value.int .u32 (x.1 : Int), .int .i32 x.2.1, .int .i32 x.2.2] ++ flat3 xs := by simp [flat3]
    rw [e, List.length_append, ih]; simp; omega
theorem LntAt.cells {w : World} {R n : Nat} {places : List (Nat × Int × Int)} (h : LntAt w R n places) (i : Nat) (hi : i < places.length) :
    w.cell? ⟨R, i * 3, none⟩ = some (.int .u32 ((places[i]'hi).1 : Int)) ∧ w.cell? ⟨R, i * 3 + 1, none⟩ = some (.int .i32 (places[i]'hi).2.1) ∧ w.cell? ⟨R, i * 3 + 2, none⟩ = some (.int .i32 (places[i]'hi).2.2) := by
  obtain ⟨cur, h1, h2, h3, h4⟩ := h
  have hf := flat3_at places i hi
  have key : ∀ k, k < 3 * places.length → cur[k]? = (flat3 places)[k]? := fun k hk => by
    rw [← h3, List.getElem?_take, if_pos hk, Array.getElem?_toList]
  refine ⟨?_, ?_, ?_⟩
  · rw [h1.cell, key _ (by omega)]; exact hf.1
  · rw [h1.cell, key _ (by omega)]; exact hf.2.1
  · rw [h1.cell, key _ (by omega)]; exact hf.2.2
theorem LntAt.more {w : World} {R n k : Nat} {places : List (Nat × Int × Int)} (h : LntAt w R n places) (hk : k = 3 * places.length) (hn : places.length < n) (p : Nat) (l c : Int) :
    LntAt (w.setCells R k [.int .u32 (p : Int), .int .i32 l, .int .i32 c]) R n (places ++ [(p, l, c)]) := by
  obtain ⟨cur, h1, h2, h3, h4⟩ := h
  subst hk
  refine ⟨_, (((h1.put (3 * places.length) (.int .u32 (p : Int))).put (3 * places.length + 1) (.int .i32 l)).put (3 * places.length + 2) (.int .i32 c)), by simpa using h2, ?_, by simp; omega⟩
  rw [flat3_more]
  have := take_set3 cur.toList (flat3 places) (3 * places.length) (.int .u32 (p : Int)) (.int .i32 l) (.int .i32 c) h3 (by simp; omega)
  simpa [Array.toList_setIfInBounds, Nat.mul_add] using this
theorem i16_l (x : Nat) (hx : x < 65536) : IntKind.i16.wrap (IntKind.i16.wrap (x : Int) * 16) / 2048 = sBits (x / 128) 32 := by
  unfold sBits
  simp only [IntKind.wrap, IntKind.bits, IntKind.signed]
  simp
  split <;> split <;> (try split) <;> omega
theorem i16_c (x : Nat) (hx : x < 65536) : IntKind.i16.wrap (IntKind.i16.wrap (x : Int) * 512) / 1024 = sBits (x / 2) 64 := by
  unfold sBits
  simp only [IntKind.wrap, IntKind.bits, IntKind.signed]
  simp
  split <;> split <;> (try split) <;> omega
theorem and1 (x : Nat) (hx : x < 65536) : bits .and .u16 (x : Int) 1 = ((x % 2 : Nat) : Int) := by
  have := u16_and_nat x 1 hx (by omega)
  rw [Nat.and_one_is_mod] at this
  exact this
theorem sBits_in (x m : Nat) (hm : 0 < m) (he : m % 2 = 0) : -((m / 2 : Nat) : Int) ≤ sBits x m ∧ sBits x m < ((m / 2 : Nat) : Int) := by
  unfold sBits
  have := Nat.mod_lt x hm
  split <;> omega
/-- The state of the loop. -/
structure DS (B G E n : Nat) (fa : Option Addr) (ln c : Int) (v6 v7 o1 o2 o3 : Value) (rows : List Nat) (w wr : World) (done : List (Nat × Int × Int)) (p : Nat) (l1 c1 : Int) : Prop where
  g : Blk wr G 90 (funCells fa ln c v6 v7 o1 o2 o3 (.slice (some ⟨w.heap.size, 0, none⟩) done.length n))
  e : Blk wr E 116 #[.int .u32 (p : Int), .int .i32 l1, .int .i32 c1]
  hE : w.heap.size < E
  hne : G ≠ E ∧ G < w.heap.size
  lnt : LntAt wr w.heap.size n done
  tab : NH B wr v7 rows
  only : Only (· = G) w wr
theorem DS.app {B G E n : Nat} {fa : Option Addr} {ln c : Int} {v6 v7 o1 o2 o3 : Value} {rows : List Nat} {w W : World} {done : List (Nat × Int × Int)} {p : Nat} {l1 c1 P : Int} (h : DS B G E n fa ln c v6 v7 o1 o2 o3 rows w W done p l1 c1) (hP : P = (p : Int)) (hn : done.length < n) :
    (∀ j u, [Value.int .u32 P, .int .i32 l1, .int .i32 c1][j]? = some u → (W.alloc (.cells #[.int .u32 P, .int .i32 l1, .int .i32 c1] 116)).drew.cell? ((⟨W.heap.size, 0, none⟩ : Addr).add j) = some u) ∧
    (∀ u ∈ [Value.int .u32 P, .int .i32 l1, .int .i32 c1], u.oneCell' = true) ∧
    (∀ j, j < [Value.int .u32 P, .int .i32 l1, .int .i32 c1].length → ((W.alloc (.cells #[.int .u32 P, .int .i32 l1, .int .i32 c1] 116)).drew.cell? ⟨w.heap.size, 0 + done.length * 3 + j, none⟩).isSome = true ∧ (W.alloc (.cells #[.int .u32 P, .int .i32 l1, .int .i32 c1] 116)).drew.frozen? ⟨w.heap.size, 0 + done.length * 3 + j, none⟩ = false) ∧
    ((W.alloc (.cells #[.int .u32 P, .int .i32 l1, .int .i32 c1] 116)).drew.setCells w.heap.size (done.length * 3) [.int .u32 P, .int .i32 l1, .int .i32 c1]).cell? ⟨G, 19, none⟩ = some (.slice (some ⟨w.heap.size, 0, none⟩) done.length n) ∧
    ((W.alloc (.cells #[.int .u32 P, .int .i32 l1, .int .i32 c1] 116)).drew.setCells w.heap.size (done.length * 3) [.int .u32 P, .int .i32 l1, .int .i32 c1]).frozen? ⟨G, 19, none⟩ = false ∧
    DS B G E n fa ln c v6 v7 o1 o2 o3 rows w (((W.alloc (.cells #[.int .u32 P, .int .i32 l1, .int .i32 c1] 116)).drew.setCells w.heap.size (done.length * 3) [.int .u32 P, .int .i32 l1, .int .i32 c1]).setCell ⟨G, 19, none⟩ (.slice (some ⟨w.heap.size, 0, none⟩) (done.length + 1) n)) (done ++ [(p, l1, c1)]) p l1 c1 := by
  subst hP
  obtain ⟨W5, hW5⟩ : ∃ W5, W5 = (W.alloc (.cells #[.int .u32 (p : Int), .int .i32 l1, .int .i32 c1] 116)).drew := ⟨_, rfl⟩
  have hN : Blk W5 W.heap.size 116 #[.int .u32 (p : Int), .int .i32 l1, .int .i32 c1] := by rw [hW5]; exact (Blk.new W _ _).drew
  obtain ⟨hg, he, hE, hne, ⟨cur, hl1, hl2, hl3, hl4⟩, ht, ho⟩ := h
  have hg5 : Blk W5 G 90 (funCells fa ln c v6 v7 o1 o2 o3 (.slice (some ⟨w.heap.size, 0, none⟩) done.length n)) := by rw [hW5]; exact (hg.alloc _).drew
  have he5 : Blk W5 E 116 #[.int .u32 (p : Int), .int .i32 l1, .int .i32 c1] := by rw [hW5]; exact (he.alloc _).drew
  have hl5 : Blk W5 w.heap.size 116 cur := by rw [hW5]; exact (hl1.alloc _).drew
  have ht5 : NH B W5 v7 rows := by rw [hW5]; exact (ht.alloc _).drew
  have ho5 : Only (· = G) w W5 := by rw [hW5]; exact (ho.alloc _).drew
  rw [← hW5]
  clear hW5
  have hset : W5.setCells w.heap.size (done.length * 3) [.int .u32 (p : Int), .int .i32 l1, .int .i32 c1] = ((W5.setCell ⟨w.heap.size, done.length * 3, none⟩ (.int .u32 (p : Int))).setCell ⟨w.heap.size, done.length * 3 + 1, none⟩ (.int .i32 l1)).setCell ⟨w.heap.size, done.length * 3 + 2, none⟩ (.int .i32 c1) := rfl
  have k6 : KeepsT 116 W5 (W5.setCells w.heap.size (done.length * 3) [.int .u32 (p : Int), .int .i32 l1, .int .i32 c1]) := by
    rw [hset]
    exact ((keeps_put hl5 _ _).trans (keeps_put (hl5.put _ _) _ _)).trans (keeps_put ((hl5.put _ _).put _ _) _ _)
  have hO6 : Only (· = w.heap.size) W5 (W5.setCells w.heap.size (done.length * 3) [.int .u32 (p : Int), .int .i32 l1, .int .i32 c1]) := by
    rw [hset]
    exact (((Only.refl (· = w.heap.size) W5).setCell (p := ⟨w.heap.size, _, none⟩) (.inl rfl) _).setCell (p := ⟨w.heap.size, _, none⟩) (.inl rfl) _).setCell (p := ⟨w.heap.size, _, none⟩) (.inl rfl) _
  have hg6 := k6.blk hg5 (by decide)
  have hl6 : LntAt (W5.setCells w.heap.size (done.length * 3) [.int .u32 (p : Int), .int .i32 l1, .int .i32 c1]) w.heap.size n (done ++ [(p, l1, c1)]) := LntAt.more ⟨cur, hl5, hl2, hl3, hl4⟩ (by omega) hn p l1 c1
  have he6 := he5.only hO6 (by omega)
  refine ⟨?_, ?_, ?_, ?_, hg6.frozen 19, ?_⟩
  · intro j u hj
    have hc := hN.cell j
    have e1 : (⟨W.heap.size, 0, none⟩ : Addr).add j = ⟨W.heap.size, j, none⟩ := by
      by_cases h0 : j = 0
      · subst h0; rfl
      · simp [Addr.add, h0]
    rw [e1, hc]
    simpa using hj
  · intro u hu
    simp at hu
    rcases hu with rfl | rfl | rfl <;> rfl
  · intro j hj
    have hj3 : j < 3 := by simpa using hj
    refine ⟨?_, hl5.frozen _⟩
    rw [hl5.cell]
    have h9 : 0 + done.length * 3 + j < cur.size := by omega
    rw [Array.getElem?_eq_getElem h9]
    rfl
  · have := hg6.cell 19
    simpa [funCells] using this
  · have k7 := keeps_put hg6 19 (.slice (some ⟨w.heap.size, 0, none⟩) (done.length + 1) n)
    have hO7 : Only (· = G) (W5.setCells w.heap.size (done.length * 3) [.int .u32 (p : Int), .int .i32 l1, .int .i32 c1]) ((W5.setCells w.heap.size (done.length * 3) [.int .u32 (p : Int), .int .i32 l1, .int .i32 c1]).setCell ⟨G, 19, none⟩ (.slice (some ⟨w.heap.size, 0, none⟩) (done.length + 1) n)) := (Only.refl (· = G) _).setCell (p := ⟨G, 19, none⟩) (.inl rfl) _
    refine ⟨?_, he6.only hO7 (fun e => hne.1 e.symm), hE, hne, hl6.only hO7 (by omega), k7.own (k6.own ht5 (by decide)) (by decide), ?_⟩
    · have := hg6.put 19 (.slice (some ⟨w.heap.size, 0, none⟩) (done.length + 1) n)
      simpa [funCells] using this
    · rw [hset]
      exact (((ho5.setCell (p := ⟨w.heap.size, _, none⟩) (.inr (Nat.le_refl _)) _).setCell (p := ⟨w.heap.size, _, none⟩) (.inr (Nat.le_refl _)) _).setCell (p := ⟨w.heap.size, _, none⟩) (.inr (Nat.le_refl _)) _).setCell (p := ⟨G, 19, none⟩) (.inl rfl) _
def DecPost (G : Nat) (fa : Option Addr) (ln c : Int) (v6 v7 o1 o2 o3 : Value) (rows : List Nat) (w : World) (e : Ending) (w' : World) : Prop :=
  e = .returned (.tuple #[]) ∧ Blk w' G 90 (funCells fa ln c v6 v7 o1 o2 o3 (.slice (some ⟨w.heap.size, 0, none⟩) (undelta rows 0 ln c).length rows.length)) ∧ LntAt w' w.heap.size rows.length (undelta rows 0 ln c) ∧ Only (· = G) w w'
set_option maxRecDepth 100000 in
set_option maxHeartbeats 4000000 in
theorem dec_any (B G : Nat) (fa : Option Addr) (ln c : Int) (v6 v7 o1 o2 o3 : Value) (rows : List Nat) (w : World)
    (hG : Blk w G 90 (funCells fa ln c v6 v7 o1 o2 o3 (.slice none 0 0))) (hT : NH B w v7 rows) (hr : rows.length ≤ 50000000) (hx : ∀ x ∈ rows, x < 65536)
    (hln : -100000 ≤ ln ∧ ln ≤ 100000) (hc : -100000 ≤ c ∧ c ≤ 100000) :
    Calls Try.prog 36 #[.pointer (some ⟨G, 0, none⟩)] w (DecPost G fa ln c v6 v7 o1 o2 o3 rows w) := by
  obtain ⟨i0, hi, hz0, hz1, hz2⟩ := info_parts Try.infoPL
  obtain ⟨a7, c7, hv7⟩ := hT.form
  subst hv7
  obtain ⟨n, hn⟩ : ∃ n, n = rows.length := ⟨_, rfl⟩
  rw [← hn] at hG hT ⊢
  have HN := Lib.hid hn
  have hn1 : n ≤ 50000000 := by omega
  have hmk := run_make (P := Try.prog) w 88 116 i0 _ Try.underlying88 hi hz0 .i64 .i64 0 (n : Int) (by omega) (by omega) (by rw [hz2]; omega) (by omega)
  obtain ⟨W1, hW1⟩ : ∃ W1, W1 = w.alloc (.cells (madeCells (Value.agg #[.int .u32 0, .int .i32 0, .int .i32 0]).cells (((n : Int)).toNat * i0.size)) 116) := ⟨_, rfl⟩
  rw [← hW1] at hmk
  have hown : LntAt W1 w.heap.size n [] := by
    rw [hW1]
    refine ⟨_, Blk.new w _ _, ?_, rfl, Nat.zero_le _⟩
    rw [size_madeCells, hz1]; simp; omega
  have hbw : Below w.heap.size w W1 := by rw [hW1]; exact (Below.refl _ w).alloc (Nat.le_refl _) _
  have hs1 : w.heap.size + 1 = W1.heap.size := by rw [hW1]; simp
  rw [show ((n : Int)).toNat = n by omega, Int.toNat_zero] at hmk
  clear hW1
  have G1 := hG.below hbw hG.lt
  have g2 := G1.cell 2
  have g3 := G1.cell 3
  have g7 := G1.cell 7
  have g19 := G1.cell 19
  have z19 := G1.frozen 19
  have q7 := hG.cell 7
  simp only [funCells, List.getElem?_toArray, List.getElem?_cons_zero, List.getElem?_cons_succ] at g2 g3 g7 g19 q7
  have hGl := G1.lt
  have HG1 := Lib.hid G1
  have HBW := Lib.hid hbw
  have HO := Lib.hid hown
  have HX := Lib.hid hx
  have HGL := Lib.hid hG.lt
  have HT := Lib.hid (own_below hT hbw)
  clear hn hr hx hG hT hown hbw G1
  go_enter Try.func36, Try.ntmps36
  go_wp2_with fail
  clear hmk q7
  obtain ⟨W2, hW2⟩ : ∃ W2, W2 = W1.setCell ⟨G, 19, none⟩ (.slice (some ⟨w.heap.size, 0, none⟩) 0 n) := ⟨_, rfl⟩
  rw [← hW2]
  have HD2 : Hid (Blk W2 G 90 (funCells fa ln c v6 (.slice a7 n c7) o1 o2 o3 (.slice (some ⟨w.heap.size, 0, none⟩) 0 n)) ∧ LntAt W2 w.heap.size n [] ∧ NH B W2 (.slice a7 n c7) rows ∧ Only (· = G) w W2 ∧ w.heap.size + 1 = W2.heap.size) := by
    rw [hW2]
    have k := keeps_put HG1.out 19 (.slice (some ⟨w.heap.size, 0, none⟩) 0 n)
    exact ⟨by simpa [funCells] using HG1.out.put 19 (.slice (some ⟨w.heap.size, 0, none⟩) 0 n), (let ⟨cur, a1, a2⟩ := HO.out; ⟨cur, k.blk a1 (by decide), a2⟩), k.own HT.out (by decide), (Only.of_below (S := (· = G)) HBW.out).setCell (p := ⟨G, 19, none⟩) (.inl rfl) _, by simpa using hs1⟩
  clear hs1 hW2 g2 g3 g7 g19 z19 hGl HG1 HBW HO HT
  have g2 := HD2.out.1.cell 2
  have g3 := HD2.out.1.cell 3
  have g7 := HD2.out.1.cell 7
  have hGl := HD2.out.1.lt
  simp only [funCells, List.getElem?_toArray, List.getElem?_cons_zero, List.getElem?_cons_succ] at g2 g3 g7
  go_region
  clear g2 g3
  obtain ⟨E, hE⟩ : ∃ E, E = W2.heap.size := ⟨_, rfl⟩
  have hGw := HGL.out
  have HS : Hid (DS B G E n fa ln c v6 (.slice a7 n c7) o1 o2 o3 rows w (W2.alloc (.cells #[.int .u32 0, .int .i32 ln, .int .i32 c] 116)).drew [] 0 ln c) := by
    obtain ⟨h1, ⟨cur, a1, a2⟩, h3, h4, h5⟩ := HD2.out
    exact ⟨(h1.alloc _).drew, (Blk.new_at W2 _ _ hE.symm).drew, by omega, ⟨by omega, hGw⟩, ⟨cur, (a1.alloc _).drew, a2⟩, (h3.alloc _).drew, (h4.alloc _).drew⟩
  rw [← hE]
  clear hE HD2 g7
  obtain ⟨W3, hW3⟩ : ∃ W3, W3 = (W2.alloc (.cells #[.int .u32 0, .int .i32 ln, .int .i32 c] 116)).drew := ⟨_, rfl⟩
  rw [← hW3] at HS ⊢
  clear hW3 hGl
  have g7 := HS.out.g.cell 7
  simp only [funCells, List.getElem?_toArray, List.getElem?_cons_zero, List.getElem?_cons_succ] at g7
  go_wp2_with fail
  clear g7
  go_loopg [4, 30] n (fun k xv iv wr => ∃ (i p : Nat) (l1 c1 : Int) (done : List (Nat × Int × Int)), iv = .int .i64 (i : Int) ∧ k + i = n ∧ Hid (DS B G E n fa ln c v6 (.slice a7 n c7) o1 o2 o3 rows w wr done p l1 c1) ∧
      Hid (done ++ undelta (rows.drop i) p l1 c1 = undelta rows 0 ln c) ∧ p ≤ 15 * i ∧ (ln - 16 * (i : Int) ≤ l1 ∧ l1 ≤ ln + 16 * (i : Int)) ∧ (c - 32 * (i : Int) ≤ c1 ∧ c1 ≤ c + 32 * (i : Int)) ∧ done.length ≤ i)
  case atStart => exact ⟨0, 0, ln, c, [], rfl, by omega, HS.out, rfl, by omega, by omega, by omega, by simp⟩
  case round =>
    obtain ⟨i, p, l1, c1, done, rfl, hk, hds, hun, hp, hl, hcc, hdl⟩ := hrel
    have HK := Lib.hid hk
    by_cases hin : i < n
    · have hir : i < rows.length := by rw [← HN.out]; exact hin
      obtain ⟨x, hx⟩ : ∃ x, x = rows[i]'hir := ⟨_, rfl⟩
      have hx16 : x < 65536 := by rw [hx]; exact HX.out _ (List.getElem_mem hir)
      obtain ⟨g7, rfl, hcell⟩ : ∃ g7, a7 = some ⟨g7, 0, none⟩ ∧ wr.cell? ⟨g7, i, none⟩ = some (.int .u16 (x : Int)) := by
        have ht := hds.out.tab
        rcases ht.2 with ⟨_, h0⟩ | ⟨g, cap, cur, hv, hb, hh, _⟩
        · rw [h0] at hir; exact absurd hir (by simp)
        · injection hv with e1 e2 e3
          refine ⟨g, e1, ?_⟩
          subst e1 e3
          have h := ht.cells (g := g) (by simp [Value.ownBlock]) i (.int .u16 (x : Int)) (by rw [hx]; simp [hir])
          simpa [Addr.add_lit] using h
      obtain ⟨e0, e1, e2, z0, z1, z2⟩ := blk3 hds.out.e
      have hdr : rows.drop i = x :: rows.drop (i + 1) := by rw [hx]; exact List.drop_eq_getElem_cons hir
      obtain ⟨dp, hdp⟩ : ∃ dp : Nat, dp = x / 4096 := ⟨_, rfl⟩
      obtain ⟨dl, hdl⟩ : ∃ dl, dl = sBits (x / 128) 32 := ⟨_, rfl⟩
      obtain ⟨dc, hdc⟩ : ∃ dc, dc = sBits (x / 2) 64 := ⟨_, rfl⟩
      have hdp1 : dp ≤ 15 := by omega
      have hdl1 : -16 ≤ dl ∧ dl < 16 := by rw [hdl]; exact sBits_in _ 32 (by omega) (by omega)
      have hdc1 : -32 ≤ dc ∧ dc < 32 := by rw [hdc]; exact sBits_in _ 64 (by omega) (by omega)
      have hdpi : (x : Int) / 4096 = (dp : Int) := by omega
      have hsl : IntKind.i16.wrap (IntKind.i16.wrap (x : Int) * 16) / 2048 = dl := by rw [hdl]; exact i16_l x hx16
      have hsc : IntKind.i16.wrap (IntKind.i16.wrap (x : Int) * 512) / 1024 = dc := by rw [hdc]; exact i16_c x hx16
      have hl' : -900000000 ≤ l1 ∧ l1 ≤ 900000000 := by omega
      have hcc' : -1700000000 ≤ c1 ∧ c1 ≤ 1700000000 := by omega
      have hp' : p ≤ 750000000 := by omega
      have HU : Hid (undelta (rows.drop i) p l1 c1 = if x % 2 = 0 then (p + dp, l1 + dl, c1 + dc) :: undelta (rows.drop (i + 1)) (p + dp) (l1 + dl) (c1 + dc) else undelta (rows.drop (i + 1)) (p + dp) (l1 + dl) (c1 + dc)) := by
        unfold Hid
        rw [hdr, undelta_cons, ← hdp, ← hdl, ← hdc]
      have HS4 : Hid (DS B G E n fa ln c v6 (.slice (some ⟨g7, 0, none⟩) n c7) o1 o2 o3 rows w (((wr.setCell ⟨E, 0, none⟩ (.int .u32 ((p : Int) + (dp : Int)))).setCell ⟨E, 1, none⟩ (.int .i32 (l1 + dl))).setCell ⟨E, 2, none⟩ (.int .i32 (c1 + dc))) done (p + dp) (l1 + dl) (c1 + dc)) := by
        have hd := hds.out
        obtain ⟨k1, b1⟩ := keeps_three hd.e (.int .u32 ((p : Int) + (dp : Int))) (.int .i32 (l1 + dl)) (.int .i32 (c1 + dc))
        have hO : Only (· = E) wr (((wr.setCell ⟨E, 0, none⟩ (.int .u32 ((p : Int) + (dp : Int)))).setCell ⟨E, 1, none⟩ (.int .i32 (l1 + dl))).setCell ⟨E, 2, none⟩ (.int .i32 (c1 + dc))) :=
          (((Only.refl (· = E) wr).setCell (p := ⟨E, 0, none⟩) (.inl rfl) _).setCell (p := ⟨E, 1, none⟩) (.inl rfl) _).setCell (p := ⟨E, 2, none⟩) (.inl rfl) _
        have hE := hd.hE
        exact ⟨k1.blk hd.g (by decide), b1, hd.hE, hd.hne, hd.lnt.only hO (by omega), k1.own hd.tab (by decide), ((hd.only.setCell (p := ⟨E, 0, none⟩) (.inr (by simp only; omega)) _).setCell (p := ⟨E, 1, none⟩) (.inr (by simp only; omega)) _).setCell (p := ⟨E, 2, none⟩) (.inr (by simp only; omega)) _⟩
      have HDL := Lib.hid hdl1
      clear hx hdr hdp hdl hdc hk
      by_cases h2 : x % 2 = 0
      · have hb : (bits .and .u16 (x : Int) 1 == 0) = true := by rw [and1 x hx16, h2]; rfl
        have HH2 := Lib.hid h2
        clear h2
        go_wp2_with fail
        obtain ⟨W4, hW4⟩ : ∃ W4, W4 = (((wr.setCell ⟨E, 0, none⟩ (.int .u32 ((p : Int) + (dp : Int)))).setCell ⟨E, 1, none⟩ (.int .i32 (l1 + dl))).setCell ⟨E, 2, none⟩ (.int .i32 (c1 + dc))) := ⟨_, rfl⟩
        rw [← hW4] at HS4 ⊢
        clear hW4 hcell e0 e1 e2 z0 z1 z2
        obtain ⟨e0, e1, e2, z0, z1, z2⟩ := blk3 HS4.out.e
        have g19 := HS4.out.g.cell 19
        have y19 := HS4.out.g.frozen 19
        have hGl := HS4.out.g.lt
        have hEl := HS4.out.e.lt
        simp only [funCells, List.getElem?_toArray, List.getElem?_cons_zero, List.getElem?_cons_succ] at g19
        have HA := Lib.hid (HS4.out.app (P := (p : Int) + (dp : Int)) (by omega) (by omega))
        have hroom : done.length + 1 ≤ n := by omega
        go_region_law ((refine step_append_room rfl (.tmp 66) (.tmp 68) 88 rfl 116 i0 3 Try.underlying88 hi hz1 w.heap.size 0 done.length n rfl ⟨W4.heap.size, 0, none⟩ 1 1 [.int .u32 ((p : Int) + (dp : Int)), .int .i32 (l1 + dl), .int .i32 (c1 + dc)] rfl rfl HA.out.1 HA.out.2.1 hroom HA.out.2.2.1 ?_; rw [Nat.zero_add]; have g5 := HA.out.2.2.2.1; have y5 := HA.out.2.2.2.2.1))
        all_goals
          have HS6 := Lib.hid HA.out.2.2.2.2.2
          clear HA g19 y19 e0 e1 e2 z0 z1 z2
          go_wp2
          go_roundg (n - (i + 1))
          case measure => have := HK.out; omega
          case rel => exact ⟨i + 1, p + dp, l1 + dl, c1 + dc, done ++ [(p + dp, l1 + dl, c1 + dc)], by go_num, by have := HK.out; omega, HS6.out, by have h1 := HU.out; rw [if_pos HH2.out] at h1; have h3 := hun.out; rw [h1] at h3; simpa [Hid] using h3, by omega, by have := HDL.out; omega, by omega, by simp; omega⟩
      · have hb : (bits .and .u16 (x : Int) 1 == 0) = false := by rw [and1 x hx16, show x % 2 = 1 by omega]; rfl
        have HH2 := Lib.hid h2
        clear h2
        go_wp2
        go_roundg (n - (i + 1))
        case measure => have := HK.out; omega
        case rel => exact ⟨i + 1, p + dp, l1 + dl, c1 + dc, done, by go_num, by have := HK.out; omega, HS4.out, by have h1 := HU.out; rw [if_neg HH2.out] at h1; have h3 := hun.out; rw [h1] at h3; exact h3, by omega, by have := HDL.out; omega, by omega, by omega⟩
    · obtain rfl : i = n := by have := HK.out; omega
      have hd := hds.out
      have HF : Hid (done = undelta rows 0 ln c) := by
        have h1 := hun.out
        rw [HN.out, List.drop_length] at h1
        unfold Hid
        simpa [undelta] using h1
      have HDS := Lib.hid hd
      clear hd hk
      go_wp2
      go_end0
      refine ⟨rfl, ?_⟩
      rw [← HF.out, ← HN.out]
      exact ⟨HDS.out.g, HDS.out.lnt, HDS.out.only⟩
end Go.Proofs.Ytkddmiamdpbgiaa
