/- ZzGenerate: one block of instructions, and its code. -/
import Derived.Test.YtkddmiamdpbgiaaPos
import Derived.Deep.RegionHeld3
import Derived.Deep.DrawnRows
namespace Go.Proofs.Ytkddmiamdpbgiaa
open Go.RowKit
attribute [local go_sem ↓] Go.wp_at_zero Go.wp_at_succ
def flat4 (l : List Ins) : List Value := (l.map Ins.cells).flatten
theorem flat4_more (l : List Ins) (x : Ins) : flat4 (l ++ [x]) = flat4 l ++ x.cells := by simp [flat4]
theorem flat4_len (l : List Ins) : (flat4 l).length = 4 * l.length := by
  induction l with
  | nil => rfl
  | cons x xs ih =>
    have e : flat4 (x :: xs) = x.cells ++ flat4 xs := by simp [flat4]
    rw [e, List.length_append, ih]; simp [Ins.cells]; omega
theorem flat4_at (l : List Ins) (i : Nat) (h : i < l.length) : (flat4 l)[i * 4]? = some (.int .u8 ((l[i]'h).op : Int)) ∧ (flat4 l)[i * 4 + 1]? = some (.int .u32 ((l[i]'h).arg : Int)) ∧ (flat4 l)[i * 4 + 2]? = some (.int .i32 (l[i]'h).line) ∧ (flat4 l)[i * 4 + 3]? = some (.int .i32 (l[i]'h).col) := by
  induction l generalizing i with
  | nil => simp at h
  | cons x xs ih =>
    have e : flat4 (x :: xs) = x.cells ++ flat4 xs := by simp [flat4]
    have hx : x.cells.length = 4 := rfl
    rw [e]
    cases i with
    | zero => exact ⟨rfl, rfl, rfl, rfl⟩
    | succ i =>
      have := ih i (by simpa using h)
      refine ⟨?_, ?_, ?_, ?_⟩
      · rw [List.getElem?_append_right (by rw [hx]; omega), hx]; simpa [show (i + 1) * 4 - 4 = i * 4 by omega] using this.1
      · rw [List.getElem?_append_right (by rw [hx]; omega), hx]; simpa [show (i + 1) * 4 + 1 - 4 = i * 4 + 1 by omega] using this.2.1
      · rw [List.getElem?_append_right (by rw [hx]; omega), hx]; simpa [show (i + 1) * 4 + 2 - 4 = i * 4 + 2 by omega] using this.2.2.1
      · rw [List.getElem?_append_right (by rw [hx]; omega), hx]; simpa [show (i + 1) * 4 + 3 - 4 = i * 4 + 3 by omega] using this.2.2.2
theorem insAt_of_row {w : World} {B n : Nat} {e : TypeId} {v : Value} {l : List Ins} (h : w.ownsRow B e 4 v n (flat4 l)) (hn : n = l.length) : ∃ a c, v = .slice a n c ∧ InsAt w a l := by
  subst hn
  rcases h.2 with ⟨rfl, h0⟩ | ⟨g, cap, cur, rfl, hb, hh, _⟩
  · exact ⟨none, 0, by rw [h0], .inl (List.eq_nil_of_length_eq_zero h0)⟩
  · refine ⟨_, cap, rfl, .inr ⟨g, rfl, (Array.getElem?_eq_some_iff.1 hh).1, fun j hj => ?_⟩⟩
    obtain ⟨f0, f1, f2, f3⟩ := flat4_at l j hj
    have hc := fun k u (hk : (flat4 l)[k]? = some u) => h.cells (g := g) (by simp [Value.ownBlock]) k u hk
    refine ⟨?_, ?_, ?_, ?_⟩
    · have := hc _ _ f0; rw [Addr.add_lit] at this; simpa using this
    · have := hc _ _ f1; rw [Addr.add_lit] at this; simpa using this
    · have := hc _ _ f2; rw [Addr.add_lit] at this; simpa using this
    · have := hc _ _ f3; rw [Addr.add_lit] at this; simpa using this
theorem own_base {w : World} {B C : Nat} {e : TypeId} {size : Nat} {v : Value} {n : Nat} {xs : List Value} (h : w.ownsRow B e size v n xs) (hC : C ≤ B) : w.ownsRow C e size v n xs := by
  refine ⟨h.1, ?_⟩
  rcases h.2 with h0 | ⟨g, cap, cur, hv, hb, hrest⟩
  · exact .inl h0
  · exact .inr ⟨g, cap, cur, hv, Nat.le_trans hC hb, hrest⟩
theorem Try.infoInsn : (Try.prog.info? 110).map (fun i => (i.zero, i.size, i.bytes)) = some (some (.agg #[.int .u8 0, .int .u32 0, .int .i32 0, .int .i32 0]), 4, 16) := by kernel_rfl
theorem ins_one (x : Ins) : ∀ u ∈ x.cells, u.oneCell' = true := by
  intro u hu
  simp [Ins.cells] at hu
  rcases hu with rfl | rfl | rfl | rfl <;> rfl
structure ZS (w wr : World) (fa : Option Addr) (ln c : Int) (vi : Value) (xs : List Ins) : Prop where
  g : Blk wr (w.heap.size + 1) 90 (funCells fa ln c (.slice none 0 0) (.slice none 0 0) (.int .u32 0) (.int .i32 0) (.int .u32 0) (.slice none 0 0))
  f : Blk wr (w.heap.size + 1 + 1) 105 #[.pointer (some ⟨w.heap.size + 1, 0, none⟩), .pointer none, .pointer none, .int .i32 0, .int .i32 0, .slice none 0 0, .pointer none]
  b : Blk wr (w.heap.size + 1 + 1 + 1) 108 #[vi, .pointer none, .pointer none, .int .i64 0, .int .i64 0, .int .u32 0]
  row : wr.ownsRow w.heap.size 110 4 vi xs.length (flat4 xs)
  below : Below w.heap.size w wr
theorem ZS.alloc {w wr : World} {fa : Option Addr} {ln c : Int} {vi : Value} {xs : List Ins} (h : ZS w wr fa ln c vi xs) (o : Obj) : ZS w (wr.alloc o) fa ln c vi xs :=
  ⟨h.g.alloc o, h.f.alloc o, h.b.alloc o, h.row.alloc o, h.below.alloc h.below.size o⟩
theorem ZS.app {w W w' : World} {fa : Option Addr} {ln c : Int} {vi v' : Value} {xs : List Ins} {C : Nat} {x : Ins} {xc : Array Value} (h : ZS w W fa ln c vi xs) (hC : Blk W C 66 xc)
    (ho : w'.ownsRow w.heap.size 110 4 v' (xs.length + 1) (flat4 xs ++ x.cells)) (hb : Below w.heap.size (W.alloc (.cells x.cells.toArray 110)).drew w') (hg : (W.alloc (.cells x.cells.toArray 110)).drew.grownBy w' vi.ownBlock) :
    Blk w' (w.heap.size + 1 + 1 + 1) 108 #[vi, .pointer none, .pointer none, .int .i64 0, .int .i64 0, .int .u32 0] ∧ Blk w' C 66 xc ∧
    ZS w (w'.setCell ⟨w.heap.size + 1 + 1 + 1, 0, none⟩ v') fa ln c v' (xs ++ [x]) ∧ Blk (w'.setCell ⟨w.heap.size + 1 + 1 + 1, 0, none⟩ v') C 66 xc := by
  have k := KeepsT.of_grown (h.row.alloc _).drew hg
  have b1 := k.blk ((h.b.alloc _).drew) (by decide)
  have k2 := keeps_put b1 0 v'
  refine ⟨b1, k.blk ((hC.alloc _).drew) (by decide), ⟨k2.blk (k.blk ((h.g.alloc _).drew) (by decide)) (by decide), k2.blk (k.blk ((h.f.alloc _).drew) (by decide)) (by decide), ?_, ?_, ?_⟩, k2.blk (k.blk ((hC.alloc _).drew) (by decide)) (by decide)⟩
  · simpa using b1.put 0 v'
  · have := k2.own ho (by decide)
    rw [flat4_more]
    simpa using this
  · exact ((((h.below.alloc h.below.size _).drew).trans hb)).setCell (p := ⟨w.heap.size + 1 + 1 + 1, 0, none⟩) (by simp only; omega) _
theorem vints4 (x : Nat) (h : x < 268435456) : (vints x).length ≤ 4 := vints_len 3 x (by simpa using h)
theorem bytes_a (x : Ins) (h : x.op = 44 ∨ x.op = 45) (ha : x.arg < 268435456) : x.bytes.length = 5 := by
  have := vints4 x.arg ha
  unfold Ins.bytes Ins.tail
  rw [if_pos h]
  simp [padded]; omega
theorem bytes_b (x : Ins) (h : ¬ (x.op = 44 ∨ x.op = 45)) (h2 : 43 ≤ x.op) : x.bytes.length = 1 + (vints x.arg).length := by
  unfold Ins.bytes Ins.tail
  rw [if_neg h, if_pos h2]
  simp [padded]; omega
theorem bytes_c (x : Ins) (h2 : ¬ 43 ≤ x.op) : x.bytes.length = 1 := by
  unfold Ins.bytes Ins.tail
  rw [if_neg (by omega), if_neg h2]
  rfl
def ZzPost (fa : Option Addr) (ln c : Int) (l : List Ins) (w : World) (e : Ending) (w' : World) : Prop :=
  ∃ G v6 v7, e = .returned (.pointer (some ⟨G, 0, none⟩)) ∧ w.heap.size ≤ G ∧ FnState w' G fa ln c v6 v7 (rowsOf l 0 0 ln c) ∧ NB w.heap.size w' v6 (codeOf l) ∧ NH w.heap.size w' v7 (rowsOf l 0 0 ln c) ∧ Below w.heap.size w w'
set_option maxRecDepth 100000 in
set_option maxHeartbeats 4000000 in
theorem zz_any (fa : Option Addr) (ln c : Int) (ia : Option Addr) (n cap : Nat) (l : List Ins) (w : World)
    (hi : InsAt w ia l) (hn : n = l.length) (hlen : (codeOf l).length ≤ 100000) (hln : -100000 ≤ ln ∧ ln ≤ 100000) (hc : -100000 ≤ c ∧ c ≤ 100000)
    (hall : ∀ x ∈ l, x.op < 256 ∧ x.arg < 268435456 ∧ (-100000 ≤ x.line ∧ x.line ≤ 100000) ∧ (-100000 ≤ x.col ∧ x.col ≤ 100000)) :
    Calls Try.prog 24 #[.agg #[.pointer fa, .int .i32 ln, .int .i32 c], .slice ia n cap] w (ZzPost fa ln c l w) := by
  obtain ⟨i0, hi0, hz0, hz1, hz2⟩ := info_parts Try.infoInsn
  have hnc : n ≤ 100000 := by have := codeOf_len l; omega
  have HI := Lib.hid hi
  have HN := Lib.hid hn
  have HL := Lib.hid hlen
  have HALL := Lib.hid hall
  have HLN := Lib.hid hln
  have HC := Lib.hid hc
  clear hi hn hlen hall hln hc
  go_enter Try.func24, Try.ntmps24
  go_wp2_with fail
  obtain ⟨W0, hW0⟩ : ∃ W0, W0 = (((w.alloc (Obj.cells #[Value.pointer fa, Value.int IntKind.i32 ln, Value.int IntKind.i32 c] 71)).alloc
          (Obj.cells (funCells fa ln c (.slice none 0 0) (.slice none 0 0) (.int .u32 0) (.int .i32 0) (.int .u32 0) (.slice none 0 0)) 90)).alloc
      (Obj.cells #[Value.pointer (some { block := w.heap.size + 1, off := 0 }), Value.pointer none, Value.pointer none, Value.int IntKind.i32 0, Value.int IntKind.i32 0, Value.slice none 0 0, Value.pointer none] 105)).alloc
      (Obj.cells #[Value.slice none 0 0, Value.pointer none, Value.pointer none, Value.int IntKind.i64 0, Value.int IntKind.i64 0, Value.int IntKind.u32 0] 108) := ⟨_, rfl⟩
  have HZ : Hid (ZS w W0 fa ln c (.slice none 0 0) []) := by
    rw [hW0]
    exact ⟨((Blk.new_at _ _ _ (by simp)).alloc _).alloc _, (Blk.new_at _ _ _ (by simp)).alloc _, Blk.new_at _ _ _ (by simp), World.ownsRow_nil _ _ _ _, ((((Below.refl _ w).alloc (Nat.le_refl _) _).alloc (by simp) _).alloc (by simp; omega) _).alloc (by simp; omega) _⟩
  unfold funCells at hW0
  rw [← hW0]
  clear hW0
  go_loopg [7, 18] n (fun k nv jv wr => ∃ (j m : Nat) (vi : Value), jv = .int .i64 (j : Int) ∧ nv = .int .i64 (m : Int) ∧ k + j = n ∧ Hid (m = (codeOf (l.take j)).length) ∧ m ≤ 100000 ∧ Hid (ZS w wr fa ln c vi (l.take j)))
  case atStart => exact ⟨0, 0, _, rfl, rfl, by omega, rfl, by omega, HZ.out⟩
  case round =>
    obtain ⟨j, m, vi, rfl, rfl, hk, hm, hm1, hz⟩ := hrel
    have HK := Lib.hid hk
    clear hk
    by_cases hjn : j < n
    · have hjl : j < l.length := by rw [← HN.out]; exact hjn
      have hd : decide ((j : Int) < (n : Int)) = true := by simp; omega
      rcases HI.out with he | ⟨I, rfl, hI, hcs⟩
      · exfalso; rw [he] at hjl; simp at hjl
      obtain ⟨x, hx⟩ : ∃ x, x = l[j]'hjl := ⟨_, rfl⟩
      have hcj := hcs j hjl
      have hxb := HALL.out (l[j]'hjl) (List.getElem_mem hjl)
      rw [← hx] at hcj hxb
      have HXT := Lib.hid (show l.take (j + 1) = l.take j ++ [x] by rw [hx]; exact List.take_succ_eq_append_getElem hjl)
      obtain ⟨op, arg, lin, col⟩ := x
      obtain ⟨c0, c1, c2, c3⟩ := hcj
      obtain ⟨hop, harg, hlin, hcol⟩ := hxb
      have q0 := (hz.out.below.cell (p := ⟨I, j * 4, none⟩) hI).trans c0
      have q1 := (hz.out.below.cell (p := ⟨I, j * 4 + 1, none⟩) hI).trans c1
      have q2 := (hz.out.below.cell (p := ⟨I, j * 4 + 2, none⟩) hI).trans c2
      have q3 := (hz.out.below.cell (p := ⟨I, j * 4 + 3, none⟩) hI).trans c3
      simp only at q0 q1 q2 q3 hop harg hlin hcol
      have HLM : Hid ((codeOf (l.take (j + 1))).length = m + (Ins.mk op arg lin col).bytes.length ∧ m + (Ins.mk op arg lin col).bytes.length ≤ 100000) := by
        have h1 := codeOf_take_le l (j + 1)
        have h2 := HL.out
        rw [HXT.out, codeOf_append] at h1
        have h3 : codeOf [Ins.mk op arg lin col] = (Ins.mk op arg lin col).bytes := by simp [codeOf]
        rw [h3, List.length_append, ← hm.out] at h1
        refine ⟨?_, by omega⟩
        rw [HXT.out, codeOf_append, h3, List.length_append, ← hm.out]
      clear hx c0 c1 c2 c3 hcs
      have HZ2 := Lib.hid (hz.out.alloc (.cells #[.int .u8 (op : Int), .int .u32 (arg : Int), .int .i32 lin, .int .i32 col] 66))
      have HC2 := Lib.hid (Blk.new wr 66 #[.int .u8 (op : Int), .int .u32 (arg : Int), .int .i32 lin, .int .i32 col])
      obtain ⟨ai, ci, hvi, _⟩ := insAt_of_row hz.out.row rfl
      obtain ⟨tl, htl⟩ : ∃ tl, tl = (l.take j).length := ⟨_, rfl⟩
      rw [← htl] at hvi
      have htl1 : tl ≤ 100000 := by rw [htl]; simp; omega
      have HTL := Lib.hid htl
      subst hvi
      clear htl
      go_wp2_with fail
      clear q0 q1 q2 q3
      obtain ⟨C, hC⟩ : ∃ C, C = wr.heap.size := ⟨_, rfl⟩
      obtain ⟨W2, hW2⟩ : ∃ W2, W2 = wr.alloc (.cells #[.int .u8 (op : Int), .int .u32 (arg : Int), .int .i32 lin, .int .i32 col] 66) := ⟨_, rfl⟩
      rw [← hW2] at HZ2 HC2 ⊢
      rw [← hC] at HC2 ⊢
      clear hW2 hC
      have HL5 : Hid ((l.take j ++ [Ins.mk op arg lin col]).length = tl + 1) := by unfold Hid; rw [HTL.out]; simp
      have HMX : Hid ((l.take j).length + 1 ≤ maxLen ∧ ((l.take j).length + 1) * 16 ≤ 140737488355328) := by unfold Hid; rw [← HTL.out]; exact ⟨by unfold maxLen; omega, by omega⟩
      have HWZ : Hid (w.heap.size ≤ (W2.alloc (.cells (Ins.mk op arg lin col).cells.toArray 110)).drew.heap.size) := by unfold Hid; have := HZ2.out.below.size; simp; omega
      obtain ⟨i0', i1', i2', i3'⟩ := blk4 HC2.out
      have b0 := HZ2.out.b.cell 0
      have z0 := HZ2.out.b.frozen 0
      have hbl := HZ2.out.b.lt
      have hcl := HC2.out.lt
      have hwz := HZ2.out.below.size
      simp only [List.getElem?_toArray, List.getElem?_cons_zero, List.getElem?_cons_succ] at b0
      refine wp_region_held_drew (S := fun W => W.cell? ⟨C, 0, none⟩ = some (.int .u8 (op : Int)) ∧ W.cell? ⟨C, 1, none⟩ = some (.int .u32 (arg : Int)) ∧ W.cell? ⟨C, 2, none⟩ = some (.int .i32 lin) ∧ W.cell? ⟨C, 3, none⟩ = some (.int .i32 col)) (by kernel_rfl) ⟨i0', i1', i2', i3'⟩ (fun hHeld => ?_)
      refine wpAnyH_take (i := 0) (v := ?_) rfl (by kernel_rfl) (by kernel_rfl) (by kernel_rfl) (fun _ _ _ h => h) (Or.inl ⟨by rfl, ?_⟩) (by assumption) ?_
      rotate_left
      · intro w9 hSw
        (try dsimp only at hSw)
        go_simp
        (try with_reducible rfl)
      try simp only [Act.put, List.setIfInBounds_toArray, List.set_cons_zero, List.set_cons_succ]
      refine wpAnyH_take (i := 1) (v := ?_) rfl (by kernel_rfl) (by kernel_rfl) (by kernel_rfl) (fun _ _ _ h => h) (Or.inl ⟨by rfl, ?_⟩) (by assumption) ?_
      rotate_left
      · intro w9 hSw
        (try dsimp only at hSw)
        go_simp
        (try with_reducible rfl)
      try simp only [Act.put, List.setIfInBounds_toArray, List.set_cons_zero, List.set_cons_succ]
      refine wpAnyH_take (i := 2) (v := ?_) rfl (by kernel_rfl) (by kernel_rfl) (by kernel_rfl) (fun _ _ _ h => h) (Or.inl ⟨by rfl, ?_⟩) (by assumption) ?_
      rotate_left
      · intro w9 hSw
        (try dsimp only at hSw)
        go_simp
        (try with_reducible rfl)
      try simp only [Act.put, List.setIfInBounds_toArray, List.set_cons_zero, List.set_cons_succ]
      refine wpAnyH_take (i := 3) (v := ?_) rfl (by kernel_rfl) (by kernel_rfl) (by kernel_rfl) (fun _ _ _ h => h) (Or.inl ⟨by rfl, ?_⟩) (by assumption) ?_
      rotate_left
      · intro w9 hSw
        (try dsimp only at hSw)
        go_simp
        (try with_reducible rfl)
      try simp only [Act.put, List.setIfInBounds_toArray, List.set_cons_zero, List.set_cons_succ]
      refine wpAnyH_take (i := 5) (v := ?_) rfl (by kernel_rfl) (by kernel_rfl) (by kernel_rfl) (fun _ _ _ h => h) (Or.inl ⟨by rfl, ?_⟩) (by assumption) ?_
      rotate_left
      · intro w9 hSw
        (try dsimp only at hSw)
        go_simp
        (try with_reducible rfl)
      try simp only [Act.put, List.setIfInBounds_toArray, List.set_cons_zero, List.set_cons_succ]
      refine wpAnyH_take (i := 6) (v := ?_) rfl (by kernel_rfl) (by kernel_rfl) (by kernel_rfl) (fun _ _ _ h => h) (Or.inl ⟨by rfl, ?_⟩) (by assumption) ?_
      rotate_left
      · intro w9 hSw
        (try dsimp only at hSw)
        go_simp
        (try with_reducible rfl)
      try simp only [Act.put, List.setIfInBounds_toArray, List.set_cons_zero, List.set_cons_succ]
      refine wpAnyH_take (i := 7) (v := ?_) rfl (by kernel_rfl) (by kernel_rfl) (by kernel_rfl) (fun _ _ _ h => h) (Or.inl ⟨by rfl, ?_⟩) (by assumption) ?_
      rotate_left
      · intro w9 hSw
        (try dsimp only at hSw)
        go_simp
        (try with_reducible rfl)
      try simp only [Act.put, List.setIfInBounds_toArray, List.set_cons_zero, List.set_cons_succ]
      refine wpAnyH_take (i := 8) (v := ?_) rfl (by kernel_rfl) (by kernel_rfl) (by kernel_rfl) (fun _ _ _ h => h) (Or.inl ⟨by rfl, ?_⟩) (by assumption) ?_
      rotate_left
      · intro w9 hSw
        (try dsimp only at hSw)
        go_simp
        (try with_reducible rfl)
      try simp only [Act.put, List.setIfInBounds_toArray, List.set_cons_zero, List.set_cons_succ]
      refine wpAnyH_take (i := 9) (v := ?_) rfl (by kernel_rfl) (by kernel_rfl) (by kernel_rfl) (fun _ _ _ h => h) (Or.inl ⟨by rfl, ?_⟩) (by assumption) ?_
      rotate_left
      · intro w9 hSw
        (try dsimp only at hSw)
        go_simp
        (try with_reducible rfl)
      try simp only [Act.put, List.setIfInBounds_toArray, List.set_cons_zero, List.set_cons_succ]
      refine wpAnyH_take (i := 10) (v := ?_) rfl (by kernel_rfl) (by kernel_rfl) (by kernel_rfl) (fun _ _ _ h => h) (Or.inl ⟨by rfl, ?_⟩) (by assumption) ?_
      rotate_left
      · intro w9 hSw
        (try dsimp only at hSw)
        go_simp
        (try with_reducible rfl)
      try simp only [Act.put, List.setIfInBounds_toArray, List.set_cons_zero, List.set_cons_succ]
      refine wpAnyH_take (i := 11) (v := ?_) rfl (by kernel_rfl) (by kernel_rfl) (by kernel_rfl) (fun _ _ _ h => h) (Or.inl ⟨by rfl, ?_⟩) (by assumption) ?_
      rotate_left
      · intro w9 hSw
        (try dsimp only at hSw)
        go_simp
        (try with_reducible rfl)
      try simp only [Act.put, List.setIfInBounds_toArray, List.set_cons_zero, List.set_cons_succ]
      refine wpAnyH_take (i := 12) (v := ?_) rfl (by kernel_rfl) (by kernel_rfl) (by kernel_rfl) (fun _ _ _ h => h) (Or.inl ⟨by rfl, ?_⟩) (by assumption) ?_
      rotate_left
      · intro w9 hSw
        (try dsimp only at hSw)
        go_simp
        (try with_reducible rfl)
      try simp only [Act.put, List.setIfInBounds_toArray, List.set_cons_zero, List.set_cons_succ]
      refine wpAnyH_take (i := 13) (v := ?_) rfl (by kernel_rfl) (by kernel_rfl) (by kernel_rfl) (fun _ _ _ h => h) (Or.inl ⟨by rfl, ?_⟩) (by assumption) ?_
      rotate_left
      · intro w9 hSw
        (try dsimp only at hSw)
        go_simp
        (try with_reducible rfl)
      try simp only [Act.put, List.setIfInBounds_toArray, List.set_cons_zero, List.set_cons_succ]
      refine wpAnyH_ready (rs := [4, 14]) (by kernel_rfl) (by simp) ?_
      refine AllReadyH.cons rfl (fun K hK => ?_) (AllReadyH.cons rfl (fun K hK => ?_) AllReadyH.nil)
      rotate_left
      go_simp
      refine hK.out _ _ (by (first | exact HK6.out | exact HK5.out | go_keep)) (fun hHeld => ?_)
      clear hK K
      try simp only [Act.put, List.setIfInBounds_toArray, List.set_cons_zero, List.set_cons_succ]
      refine wpAnyH_ready (rs := [4]) (by kernel_rfl) (by simp) ?_
      refine AllReadyH.cons rfl (fun K hK => ?_) AllReadyH.nil
      go_simp
      refine hK.out _ _ (by (first | exact HK6.out | exact HK5.out | go_keep)) (fun hHeld => ?_)
      clear hK K
      try simp only [Act.put, List.setIfInBounds_toArray, List.set_cons_zero, List.set_cons_succ]
      refine wpAnyH_ready (rs := [15]) (by kernel_rfl) (by simp) ?_
      refine AllReadyH.cons rfl (fun K hK => ?_) AllReadyH.nil
      refine step_append_row rfl (.tmp 26) (.tmp 36) 106 rfl w.heap.size 110 i0 _ 16 4 Try.underlying106 hi0 hz0 hz1 hz2 rfl (by decide) (.slice ai tl ci) (l.take j).length (flat4 (l.take j)) (HZ2.out.row.alloc _).drew rfl (Ins.mk op arg lin col).cells rfl (ins_one _) W2.heap.size (Blk.new W2 _ _).drew rfl HMX.out.1 HMX.out.2 HWZ.out ?_
      intro v' w' hown' hb' hg'
      obtain ⟨hb5, hx5, hz5, hc5⟩ := HZ2.out.app HC2.out hown' hb' hg'
      obtain ⟨a5, c5, hv5, _⟩ := insAt_of_row hz5.row rfl
      rw [HL5.out] at hv5
      rw [hv5] at hz5 hc5 ⊢
      have HZ5 := Lib.hid hz5
      have HC5 := Lib.hid hc5
      have b0' := hb5.cell 0
      have z0' := hb5.frozen 0
      simp only [List.getElem?_toArray, List.getElem?_cons_zero] at b0'
      have HK5 := Lib.hid (blk4 hx5)
      have HK6 := Lib.hid (blk4 hc5)
      clear hown' hb' hg' hb5 hz5 hc5 hx5 hv5
      refine hK.out _ _ (by (first | exact HK6.out | exact HK5.out | go_keep)) (fun hHeld => ?_)
      clear hK K
      try simp only [Act.put, List.setIfInBounds_toArray, List.set_cons_zero, List.set_cons_succ]
      refine wpAnyH_take (i := 16) (v := ?_) rfl (by kernel_rfl) (by kernel_rfl) (by kernel_rfl) (fun _ _ _ h => h) (Or.inl ⟨by rfl, ?_⟩) (by assumption) ?_
      rotate_left
      · intro w9 hSw
        (try dsimp only at hSw)
        go_simp
        (try with_reducible rfl)
      try simp only [Act.put, List.setIfInBounds_toArray, List.set_cons_zero, List.set_cons_succ]
      refine wpAnyH_take (i := 17) (v := ?_) rfl (by kernel_rfl) (by kernel_rfl) (by kernel_rfl) (fun _ _ _ h => h) (Or.inl ⟨by rfl, ?_⟩) (by assumption) ?_
      rotate_left
      · intro w9 hSw
        (try dsimp only at hSw)
        go_simp
        (try with_reducible rfl)
      try simp only [Act.put, List.setIfInBounds_toArray, List.set_cons_zero, List.set_cons_succ]
      refine wpAnyH_ready (rs := [18]) (by kernel_rfl) (by simp) ?_
      refine AllReadyH.cons rfl (fun K hK => ?_) AllReadyH.nil
      go_simp
      refine hK.out _ _ (by (first | exact HK6.out | exact HK5.out | go_keep)) (fun hHeld => ?_)
      clear hK K
      try simp only [Act.put, List.setIfInBounds_toArray, List.set_cons_zero, List.set_cons_succ]
      refine wpAnyH_done (by kernel_rfl) ?_ _
      rotate_left
      go_simp
      refine hK.out _ _ (by (first | exact HK6.out | exact HK5.out | go_keep)) (fun hHeld => ?_)
      clear hK K
      try simp only [Act.put, List.setIfInBounds_toArray, List.set_cons_zero, List.set_cons_succ]
      refine wpAnyH_ready (rs := [14]) (by kernel_rfl) (by simp) ?_
      refine AllReadyH.cons rfl (fun K hK => ?_) AllReadyH.nil
      go_simp
      refine hK.out _ _ (by (first | exact HK6.out | exact HK5.out | go_keep)) (fun hHeld => ?_)
      clear hK K
      try simp only [Act.put, List.setIfInBounds_toArray, List.set_cons_zero, List.set_cons_succ]
      refine wpAnyH_ready (rs := [15]) (by kernel_rfl) (by simp) ?_
      refine AllReadyH.cons rfl (fun K hK => ?_) AllReadyH.nil
      refine step_append_row rfl (.tmp 26) (.tmp 36) 106 rfl w.heap.size 110 i0 _ 16 4 Try.underlying106 hi0 hz0 hz1 hz2 rfl (by decide) (.slice ai tl ci) (l.take j).length (flat4 (l.take j)) (HZ2.out.row.alloc _).drew rfl (Ins.mk op arg lin col).cells rfl (ins_one _) W2.heap.size (Blk.new W2 _ _).drew rfl HMX.out.1 HMX.out.2 HWZ.out ?_
      intro v' w' hown' hb' hg'
      obtain ⟨hb5, hx5, hz5, hc5⟩ := HZ2.out.app HC2.out hown' hb' hg'
      obtain ⟨a5, c5, hv5, _⟩ := insAt_of_row hz5.row rfl
      rw [HL5.out] at hv5
      rw [hv5] at hz5 hc5 ⊢
      have HZ5 := Lib.hid hz5
      have HC5 := Lib.hid hc5
      have b0' := hb5.cell 0
      have z0' := hb5.frozen 0
      simp only [List.getElem?_toArray, List.getElem?_cons_zero] at b0'
      have HK5 := Lib.hid (blk4 hx5)
      have HK6 := Lib.hid (blk4 hc5)
      clear hown' hb' hg' hb5 hz5 hc5 hx5 hv5
      refine hK.out _ _ (by (first | exact HK6.out | exact HK5.out | go_keep)) (fun hHeld => ?_)
      clear hK K
      try simp only [Act.put, List.setIfInBounds_toArray, List.set_cons_zero, List.set_cons_succ]
      refine wpAnyH_take (i := 16) (v := ?_) rfl (by kernel_rfl) (by kernel_rfl) (by kernel_rfl) (fun _ _ _ h => h) (Or.inl ⟨by rfl, ?_⟩) (by assumption) ?_
      rotate_left
      · intro w9 hSw
        (try dsimp only at hSw)
        go_simp
        (try with_reducible rfl)
      try simp only [Act.put, List.setIfInBounds_toArray, List.set_cons_zero, List.set_cons_succ]
      refine wpAnyH_take (i := 17) (v := ?_) rfl (by kernel_rfl) (by kernel_rfl) (by kernel_rfl) (fun _ _ _ h => h) (Or.inl ⟨by rfl, ?_⟩) (by assumption) ?_
      rotate_left
      · intro w9 hSw
        (try dsimp only at hSw)
        go_simp
        (try with_reducible rfl)
      try simp only [Act.put, List.setIfInBounds_toArray, List.set_cons_zero, List.set_cons_succ]
      refine wpAnyH_ready (rs := [18]) (by kernel_rfl) (by simp) ?_
      refine AllReadyH.cons rfl (fun K hK => ?_) AllReadyH.nil
      go_simp
      refine hK.out _ _ (by (first | exact HK6.out | exact HK5.out | go_keep)) (fun hHeld => ?_)
      clear hK K
      try simp only [Act.put, List.setIfInBounds_toArray, List.set_cons_zero, List.set_cons_succ]
      refine wpAnyH_done (by kernel_rfl) ?_ _
      all_goals
        clear b0 z0 i0' i1' i2' i3'
        obtain ⟨i0', i1', i2', i3'⟩ := HK6.out
        have HZ6 := Lib.hid HZ5.out
        rw [← HXT.out] at HZ6
        by_cases hA : op = 44
        · have he1 : ((op : Int) == 44) = true := by rw [beq_iff_eq]; omega
          have HB5 := Lib.hid (bytes_a (Ins.mk op arg lin col) (.inl hA) harg)
          clear hA
          go_wp2
          go_roundg (n - (j + 1))
          case measure => have := HK.out; omega
          case rel => exact ⟨j + 1, m + 5, _, by go_num, by go_num, by have := HK.out; omega, by have := HLM.out.1; have h5 := HB5.out; unfold Hid; omega, by have := HLM.out.2; have h5 := HB5.out; omega, HZ6.out⟩
        · have he1 : ((op : Int) == 44) = false := by rw [beq_eq_false_iff_ne]; omega
          by_cases hB : op = 45
          · have he2 : ((op : Int) == 45) = true := by rw [beq_iff_eq]; omega
            have HB5 := Lib.hid (bytes_a (Ins.mk op arg lin col) (.inr hB) harg)
            clear hA hB
            go_wp2
            go_roundg (n - (j + 1))
            case measure => have := HK.out; omega
            case rel => exact ⟨j + 1, m + 5, _, by go_num, by go_num, by have := HK.out; omega, by have := HLM.out.1; have h5 := HB5.out; unfold Hid; omega, by have := HLM.out.2; have h5 := HB5.out; omega, HZ6.out⟩
          · have he2 : ((op : Int) == 45) = false := by rw [beq_eq_false_iff_ne]; omega
            by_cases hC : 43 ≤ op
            · have hd1 : decide (43 ≤ op) = true := by simp; omega
              have hd2 : decide ((43 : Int) ≤ (op : Int)) = true := by simp; omega
              have HB5 := Lib.hid (bytes_b (Ins.mk op arg lin col) (by simp only; omega) hC)
              have HV := Lib.hid (vints4 arg harg)
              obtain ⟨q, hq⟩ : ∃ q, q = (vints arg).length := ⟨_, rfl⟩
              have HAL : Hid (∀ W, Calls Try.prog 33 #[.int .u32 (arg : Int)] W fun e w' => e = .returned (.int .i64 (q : Int)) ∧ W = w') := fun W => by rw [hq]; exact arg_len arg (by omega) W
              have hq4 : q ≤ 4 := by rw [hq]; exact HV.out
              have HQ := Lib.hid hq
              clear hA hB hC hq
              go_wp2_with fail
              refine (HAL.out _).mono ?_
              rintro e w9 ⟨rfl, rfl⟩
              go_wp2
              go_roundg (n - (j + 1))
              case measure => have := HK.out; omega
              case rel => exact ⟨j + 1, m + 1 + q, _, by go_num, by go_num, by have := HK.out; omega, by have := HLM.out.1; have h5 := HB5.out; have h6 := HQ.out; unfold Hid; omega, by have := HLM.out.2; have h5 := HB5.out; have h6 := HQ.out; omega, HZ6.out⟩
            · have hd1 : decide (43 ≤ op) = false := by simp; omega
              have hd2 : decide ((43 : Int) ≤ (op : Int)) = false := by simp; omega
              have HB5 := Lib.hid (bytes_c (Ins.mk op arg lin col) (by simp only; omega))
              clear hA hB hC
              go_wp2
              go_roundg (n - (j + 1))
              case measure => have := HK.out; omega
              case rel => exact ⟨j + 1, m + 1, _, by go_num, by go_num, by have := HK.out; omega, by have := HLM.out.1; have h5 := HB5.out; unfold Hid; omega, by have := HLM.out.2; have h5 := HB5.out; omega, HZ6.out⟩
    · obtain rfl : j = n := by have := HK.out; omega
      have hz' := hz.out
      have hlt : l.take j = l := by rw [HN.out]; exact List.take_length
      have hm' := hm.out
      rw [hlt] at hz' hm'
      subst hm'
      obtain ⟨ai, ci, hvi, hia⟩ := insAt_of_row hz'.row rfl
      rw [← HN.out] at hvi
      subst hvi
      have hR := Blk.new wr 103 #[.pointer (some ⟨w.heap.size + 1 + 1 + 1, 0, none⟩)]
      have hbw2 : Below wr.heap.size wr (wr.alloc (.cells #[.pointer (some ⟨w.heap.size + 1 + 1 + 1, 0, none⟩)] 103)) := (Below.refl _ wr).alloc (Nat.le_refl _) _
      have HGEN := Lib.hid (gen_any (w.heap.size + 1 + 1) (w.heap.size + 1) wr.heap.size (w.heap.size + 1 + 1 + 1) fa ln c ai j ci l #[] #[] #[] (.int .u32 0) (.int .i32 0) (.int .u32 0) (.pointer none) 0 0 _ (.pointer none) (.pointer none) (.int .i32 0) (.int .i32 0) (.slice none 0 0) (.pointer none) (hz'.f.alloc _) (hz'.g.alloc _) hR (hz'.b.alloc _) (hia.below hbw2) HN.out HLN.out HC.out (fun x hx => by have := HALL.out x hx; exact ⟨this.1, by omega, this.2.2⟩) HL.out)
      have HZF := Lib.hid (hz'.f.alloc (.cells #[.pointer (some ⟨w.heap.size + 1 + 1 + 1, 0, none⟩)] 103))
      have HBW := Lib.hid (hz'.below.alloc hz'.below.size (.cells #[.pointer (some ⟨w.heap.size + 1 + 1 + 1, 0, none⟩)] 103))
      clear hz' hia hR hbw2 hlt hm
      go_wp2_with fail
      refine HGEN.out.mono ?_
      rintro e w9 ⟨rfl, v6, v7, hG9, h6, h7, hO⟩
      have HG9 := Lib.hid hG9
      have H6 := Lib.hid h6
      have H7 := Lib.hid h7
      have HO := Lib.hid hO
      have f0 := (HZF.out.only hO (by omega)).cell 0
      simp only [List.getElem?_toArray, List.getElem?_cons_zero] at f0
      clear hG9 h6 h7 hO
      go_wp2
      go_ret
      have hsz := HBW.out.size
      exact ⟨w.heap.size + 1, v6, v7, rfl, by omega, .inl HG9.out, own_base H6.out hsz, own_base H7.out hsz, HBW.out.trans (HO.out.to_below hsz (fun k _ e => by omega))⟩
end Go.Proofs.Ytkddmiamdpbgiaa
