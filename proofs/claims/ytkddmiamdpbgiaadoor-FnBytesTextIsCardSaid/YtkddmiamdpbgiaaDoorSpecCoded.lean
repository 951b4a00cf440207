/- The reference's code of a rune by its digits: four behind u, or eight behind U. -/
import Derived.Test.YtkddmiamdpbgiaaDoorSpecPlace
import Derived.Lib.QuoteBits
import Derived.Laws.OwnMore
namespace Go.Proofs.YtkddmiamdpbgiaaDoor
open Go.RowKit
/-- v owns the bytes xs, in a block that is new since w0. -/
def QO (w0 : World) (v : Value) (xs : List Int) (w : World) : Prop :=
  w.ownsRow w0.heap.size 5 1 v xs.length (Lib.intCells xs) ∧ Below w0.heap.size w0 w
section
variable {w0 w w' : World} {v : Value} {xs : List Int}
theorem QO.size (h : QO w0 v xs w) : w0.heap.size ≤ w.heap.size := h.2.size
theorem QO.below (h : QO w0 v xs w) (hb : Below w.heap.size w w') : QO w0 v xs w' := ⟨own_below h.1 hb, h.2.trans (hb.mono h.2.size)⟩
theorem QO.more {ys : List Int} (h : QO w0 v xs w) {v' : Value} (h1 : w'.ownsRow w0.heap.size 5 1 v' (xs.length + ys.length) (Lib.intCells xs ++ Lib.intCells ys)) (hg : w.grownBy w' v.ownBlock) : QO w0 v' (xs ++ ys) w' := by
  refine ⟨?_, h.2.grown hg h.2.size fun k hk => (h.1.lt k hk).1⟩
  simpa [Lib.intCells] using h1
theorem QO.drewN (h : QO w0 v xs w) (n : Nat) : QO w0 v xs (w.drewN n) := ⟨h.1, below_dn h.2 n⟩
/-- append(out, ..), what is appended lying in a block that was laid just ahead. -/
theorem wpList_qo_news {ops : Array Oper} {rest : List Oper} {o : Oper} {a : Act} {Q : Exit → Act → World → Prop} {W : World} (hgd : o.guard = none) (s x : Operand)
    (ho : o.op = .call { callee := .builtin .append, args := #[s, x], argTypes := #[33, 33] })
    (ys : List Int) (m : Nat) (hm : ys.length = m) (cs : Array Value) (hcs : cs.toList = Lib.intCells ys) (hx : a.eval x = .slice (some ⟨w.heap.size, 0, none⟩) m m) (hW : W = w.alloc (.cells cs 5)) (hs : a.eval s = v) (hq : QO w0 v xs w) (hlen : xs.length + m ≤ 140737488355328)
    (h : ∀ v' w', QO w0 v' (xs ++ ys) w' → wpList Tryd.prog ops Q rest (a.put o.dst v') w') : wpList Tryd.prog ops Q (o :: rest) a W := by
  subst hW
  have hsz := hq.2.size
  obtain ⟨i0, hi, hz0, hz1, hz2⟩ := info_parts Tryd.infoByte
  refine wpList_append_own _ hgd s x 33 ho w0.heap.size 5 i0 _ 1 1 Tryd.underlying33 hi hz0 hz1 hz2 rfl (by decide) v _ _ hs (hq.1.alloc _) ⟨w.heap.size, 0, none⟩ m m (Lib.intCells ys) hx (by simp [Lib.intCells, hm]) ?_ ?_ (by unfold maxLen; omega) (by omega) (by simp; omega) ?_
  · intro j u hj
    have e : (⟨w.heap.size, 0, none⟩ : Addr).add j = ⟨w.heap.size, j, none⟩ := by
      unfold Addr.add
      split <;> simp_all
    rw [e, (Blk.new w 5 cs).cell j, ← Array.getElem?_toList, hcs]
    exact hj
  · intro u hu
    simp only [Lib.intCells, List.mem_map] at hu
    obtain ⟨x, _, rfl⟩ := hu
    rfl
  · intro v' w' h1 hg _
    subst hm
    have hq' : QO w0 v xs (w.alloc (.cells cs 5)) := ⟨hq.1.alloc _, hq.2.alloc hsz _⟩
    exact h v' w' (hq'.more h1 hg)
/-- append(out, c). -/
theorem wpList_qo_byte {ops : Array Oper} {rest : List Oper} {o : Oper} {a : Act} {Q : Exit → Act → World → Prop} {W : World} (hgd : o.guard = none) (s x : Operand)
    (ho : o.op = .call { callee := .builtin .append, args := #[s, x], argTypes := #[33, 33] })
    (c : Int) (hx : a.eval x = .slice (some ⟨w.heap.size, 0, none⟩) 1 1) (hW : W = w.alloc (.cells #[.int .u8 c] 5)) (hs : a.eval s = v) (hq : QO w0 v xs w) (hlen : xs.length + 1 ≤ 140737488355328)
    (h : ∀ v' w', QO w0 v' (xs ++ [c]) w' → wpList Tryd.prog ops Q rest (a.put o.dst v') w') : wpList Tryd.prog ops Q (o :: rest) a W :=
  wpList_qo_news hgd s x ho [c] 1 rfl #[.int .u8 c] rfl hx hW hs hq hlen h
/-- append(out, t...), t a row that is owned elsewhere. -/
theorem wpList_qo_row {ops : Array Oper} {rest : List Oper} {o : Oper} {a : Act} {Q : Exit → Act → World → Prop} (hgd : o.guard = none) (s x : Operand)
    (ho : o.op = .call { callee := .builtin .append, args := #[s, x], argTypes := #[33, 33] })
    (ys : List Int) (hy : 0 < ys.length) (B : Nat) (t : Value) (ht : w.ownsRow B 5 1 t ys.length (Lib.intCells ys)) (hx : a.eval x = t) (hs : a.eval s = v) (hq : QO w0 v xs w) (hlen : xs.length + ys.length ≤ 140737488355328)
    (h : ∀ v' w', QO w0 v' (xs ++ ys) w' → wpList Tryd.prog ops Q rest (a.put o.dst v') w') : wpList Tryd.prog ops Q (o :: rest) a w := by
  have hsz := hq.2.size
  obtain ⟨i0, hi, hz0, hz1, hz2⟩ := info_parts Tryd.infoByte
  rcases ht.2 with ⟨_, h0⟩ | ⟨g, cap, cur, rfl, _⟩
  · omega
  refine wpList_append_own _ hgd s x 33 ho w0.heap.size 5 i0 _ 1 1 Tryd.underlying33 hi hz0 hz1 hz2 rfl (by decide) v _ _ hs hq.1 ⟨g, 0, none⟩ ys.length cap (Lib.intCells ys) hx (by simp [Lib.intCells]) (fun j u hj => ht.cells (g := g) rfl j u hj) ?_ (by unfold maxLen; omega) (by omega) hsz ?_
  · intro u hu
    simp only [Lib.intCells, List.mem_map] at hu
    obtain ⟨x, _, rfl⟩ := hu
    rfl
  · intro v' w' h1 hg _
    exact h v' w' (hq.more h1 hg)
theorem qo_lit (w : World) (cs : Array Value) (ys : List Int) (m : Nat) (hm : ys.length = m) (hcs : cs.toList = Lib.intCells ys) (hmx : m ≤ 1000) : QO w (.slice (some ⟨w.heap.size, 0, none⟩) m m) ys (w.alloc (.cells cs 5)) := by
  have hcz : cs.size = m := by
    have := congrArg List.length hcs
    simpa [Lib.intCells, hm] using this
  refine ⟨⟨by simp [Lib.intCells], .inr ⟨w.heap.size, m, cs, by rw [hm], Nat.le_refl _, heap_alloc_new w _, by omega, by unfold maxLen; omega, by omega, ?_⟩⟩, (Below.refl _ w).alloc (Nat.le_refl _) _⟩
  rw [hcs, List.take_of_length_le (by simp [Lib.intCells])]
end
def codedZ (R : Nat) : List Int := if R < 65536 then 92 :: 117 :: Lib.hexDigits R 4 else 92 :: 85 :: Lib.hexDigits R 8
theorem codedZ_len (R : Nat) : 0 < (codedZ R).length ∧ (codedZ R).length ≤ 10 := by
  unfold codedZ
  split <;> simp [Lib.hexDigits]
def CodedPost (R : Nat) (w : World) (e : Ending) (w' : World) : Prop := ∃ v, e = .returned v ∧ QO w v (codedZ R) w'
set_option maxRecDepth 20000 in
set_option maxHeartbeats 4000000 in
theorem coded_four (R : Nat) (hlt : R < 65536) (hR : R ≤ 1114111) (w : World) :
    Calls Tryd.prog 24 #[.int .i32 (R : Int)] w (CodedPost R w) := by
  have hd : decide ((65535 : Int) < (R : Int)) = false := by simp; omega
  have HST : Hid (codedZ R = 92 :: 117 :: Lib.hexDigits R 4) := by unfold codedZ; rw [if_pos hlt]; exact rfl
  obtain ⟨d0, hd0⟩ : ∃ d, d = R / 4096 % 16 := ⟨_, rfl⟩
  have hD0 : bits .and .i32 (((R : Int) / 4096)) 15 = (d0 : Int) := by
    have e := Lib.and15_shift (R : Int) R rfl (by omega) 4096
    rw [hd0]; simpa using e
  have hL0 : d0 < 16 := by omega
  have hL0' : (d0 : Int) < 16 := by omega
  have HD0 := Lib.hid hd0
  clear hd0
  obtain ⟨d1, hd1⟩ : ∃ d, d = R / 256 % 16 := ⟨_, rfl⟩
  have hD1 : bits .and .i32 (((R : Int) / 256)) 15 = (d1 : Int) := by
    have e := Lib.and15_shift (R : Int) R rfl (by omega) 256
    rw [hd1]; simpa using e
  have hL1 : d1 < 16 := by omega
  have hL1' : (d1 : Int) < 16 := by omega
  have HD1 := Lib.hid hd1
  clear hd1
  obtain ⟨d2, hd2⟩ : ∃ d, d = R / 16 % 16 := ⟨_, rfl⟩
  have hD2 : bits .and .i32 (((R : Int) / 16)) 15 = (d2 : Int) := by
    have e := Lib.and15_shift (R : Int) R rfl (by omega) 16
    rw [hd2]; simpa using e
  have hL2 : d2 < 16 := by omega
  have hL2' : (d2 : Int) < 16 := by omega
  have HD2 := Lib.hid hd2
  clear hd2
  obtain ⟨d3, hd3⟩ : ∃ d, d = R / 1 % 16 := ⟨_, rfl⟩
  have hD3 : bits .and .i32 ((R : Int)) 15 = (d3 : Int) := by
    have e := Lib.and15_shift (R : Int) R rfl (by omega) 1
    rw [hd3]; simpa using e
  have hL3 : d3 < 16 := by omega
  have hL3' : (d3 : Int) < 16 := by omega
  have HD3 := Lib.hid hd3
  clear hd3
  clear hlt
  have hq := qo_lit w #[.int .u8 92, .int .u8 117] [92, 117] 2 rfl rfl (by omega)
  go_enter Tryd.func24, Tryd.ntmps24
  go_wp2_with fail
  obtain ⟨W1, hW1⟩ : ∃ W1, W1 = w.alloc (.cells #[.int .u8 92, .int .u8 117] 5) := ⟨_, rfl⟩
  rw [← hW1] at hq ⊢
  clear hW1
  refine wp_loop_rounds 5 ?_
  rw [rounds_succ]
  go_wp2_with (at_builtin; refine wpList_qo_byte rfl _ _ rfl _ rfl rfl rfl (by assumption) (by simp only [List.length_append, List.length_cons, List.length_nil]; omega) ?_; intro _ _ hq)
  rw [rounds_succ]
  go_wp2_with (at_builtin; refine wpList_qo_byte rfl _ _ rfl _ rfl rfl rfl (by assumption) (by simp only [List.length_append, List.length_cons, List.length_nil]; omega) ?_; intro _ _ hq)
  rw [rounds_succ]
  go_wp2_with (at_builtin; refine wpList_qo_byte rfl _ _ rfl _ rfl rfl rfl (by assumption) (by simp only [List.length_append, List.length_cons, List.length_nil]; omega) ?_; intro _ _ hq)
  rw [rounds_succ]
  go_wp2_with (at_builtin; refine wpList_qo_byte rfl _ _ rfl _ rfl rfl rfl (by assumption) (by simp only [List.length_append, List.length_cons, List.length_nil]; omega) ?_; intro _ _ hq)
  rw [rounds_succ]
  go_wp2_with (at_builtin; refine wpList_qo_byte rfl _ _ rfl _ rfl rfl rfl (by assumption) (by simp only [List.length_append, List.length_cons, List.length_nil]; omega) ?_; intro _ _ hq)
  go_ret
  refine ⟨_, rfl, ?_⟩
  rw [HST.out]
  simpa [List.append_assoc, Lib.lowerhex_at, Lib.hexDigits, HD0.out, HD1.out, HD2.out, HD3.out] using hq
set_option maxRecDepth 20000 in
set_option maxHeartbeats 4000000 in
theorem coded_eight (R : Nat) (hlt : ¬ R < 65536) (hR : R ≤ 1114111) (w : World) :
    Calls Tryd.prog 24 #[.int .i32 (R : Int)] w (CodedPost R w) := by
  have hd : decide ((65535 : Int) < (R : Int)) = true := by simp; omega
  have HST : Hid (codedZ R = 92 :: 85 :: Lib.hexDigits R 8) := by unfold codedZ; rw [if_neg hlt]; exact rfl
  obtain ⟨d0, hd0⟩ : ∃ d, d = R / 268435456 % 16 := ⟨_, rfl⟩
  have hD0 : bits .and .i32 (((R : Int) / 268435456)) 15 = (d0 : Int) := by
    have e := Lib.and15_shift (R : Int) R rfl (by omega) 268435456
    rw [hd0]; simpa using e
  have hL0 : d0 < 16 := by omega
  have hL0' : (d0 : Int) < 16 := by omega
  have HD0 := Lib.hid hd0
  clear hd0
  obtain ⟨d1, hd1⟩ : ∃ d, d = R / 16777216 % 16 := ⟨_, rfl⟩
  have hD1 : bits .and .i32 (((R : Int) / 16777216)) 15 = (d1 : Int) := by
    have e := Lib.and15_shift (R : Int) R rfl (by omega) 16777216
    rw [hd1]; simpa using e
  have hL1 : d1 < 16 := by omega
  have hL1' : (d1 : Int) < 16 := by omega
  have HD1 := Lib.hid hd1
  clear hd1
  obtain ⟨d2, hd2⟩ : ∃ d, d = R / 1048576 % 16 := ⟨_, rfl⟩
  have hD2 : bits .and .i32 (((R : Int) / 1048576)) 15 = (d2 : Int) := by
    have e := Lib.and15_shift (R : Int) R rfl (by omega) 1048576
    rw [hd2]; simpa using e
  have hL2 : d2 < 16 := by omega
  have hL2' : (d2 : Int) < 16 := by omega
  have HD2 := Lib.hid hd2
  clear hd2
  obtain ⟨d3, hd3⟩ : ∃ d, d = R / 65536 % 16 := ⟨_, rfl⟩
  have hD3 : bits .and .i32 (((R : Int) / 65536)) 15 = (d3 : Int) := by
    have e := Lib.and15_shift (R : Int) R rfl (by omega) 65536
    rw [hd3]; simpa using e
  have hL3 : d3 < 16 := by omega
  have hL3' : (d3 : Int) < 16 := by omega
  have HD3 := Lib.hid hd3
  clear hd3
  obtain ⟨d4, hd4⟩ : ∃ d, d = R / 4096 % 16 := ⟨_, rfl⟩
  have hD4 : bits .and .i32 (((R : Int) / 4096)) 15 = (d4 : Int) := by
    have e := Lib.and15_shift (R : Int) R rfl (by omega) 4096
    rw [hd4]; simpa using e
  have hL4 : d4 < 16 := by omega
  have hL4' : (d4 : Int) < 16 := by omega
  have HD4 := Lib.hid hd4
  clear hd4
  obtain ⟨d5, hd5⟩ : ∃ d, d = R / 256 % 16 := ⟨_, rfl⟩
  have hD5 : bits .and .i32 (((R : Int) / 256)) 15 = (d5 : Int) := by
    have e := Lib.and15_shift (R : Int) R rfl (by omega) 256
    rw [hd5]; simpa using e
  have hL5 : d5 < 16 := by omega
  have hL5' : (d5 : Int) < 16 := by omega
  have HD5 := Lib.hid hd5
  clear hd5
  obtain ⟨d6, hd6⟩ : ∃ d, d = R / 16 % 16 := ⟨_, rfl⟩
  have hD6 : bits .and .i32 (((R : Int) / 16)) 15 = (d6 : Int) := by
    have e := Lib.and15_shift (R : Int) R rfl (by omega) 16
    rw [hd6]; simpa using e
  have hL6 : d6 < 16 := by omega
  have hL6' : (d6 : Int) < 16 := by omega
  have HD6 := Lib.hid hd6
  clear hd6
  obtain ⟨d7, hd7⟩ : ∃ d, d = R / 1 % 16 := ⟨_, rfl⟩
  have hD7 : bits .and .i32 ((R : Int)) 15 = (d7 : Int) := by
    have e := Lib.and15_shift (R : Int) R rfl (by omega) 1
    rw [hd7]; simpa using e
  have hL7 : d7 < 16 := by omega
  have hL7' : (d7 : Int) < 16 := by omega
  have HD7 := Lib.hid hd7
  clear hd7
  clear hlt
  have hq := qo_lit w #[.int .u8 92, .int .u8 85] [92, 85] 2 rfl rfl (by omega)
  go_enter Tryd.func24, Tryd.ntmps24
  go_wp2_with fail
  obtain ⟨W1, hW1⟩ : ∃ W1, W1 = w.alloc (.cells #[.int .u8 92, .int .u8 85] 5) := ⟨_, rfl⟩
  rw [← hW1] at hq ⊢
  clear hW1
  refine wp_loop_rounds 9 ?_
  rw [rounds_succ]
  go_wp2_with (at_builtin; refine wpList_qo_byte rfl _ _ rfl _ rfl rfl rfl (by assumption) (by simp only [List.length_append, List.length_cons, List.length_nil]; omega) ?_; intro _ _ hq)
  rw [rounds_succ]
  go_wp2_with (at_builtin; refine wpList_qo_byte rfl _ _ rfl _ rfl rfl rfl (by assumption) (by simp only [List.length_append, List.length_cons, List.length_nil]; omega) ?_; intro _ _ hq)
  rw [rounds_succ]
  go_wp2_with (at_builtin; refine wpList_qo_byte rfl _ _ rfl _ rfl rfl rfl (by assumption) (by simp only [List.length_append, List.length_cons, List.length_nil]; omega) ?_; intro _ _ hq)
  rw [rounds_succ]
  go_wp2_with (at_builtin; refine wpList_qo_byte rfl _ _ rfl _ rfl rfl rfl (by assumption) (by simp only [List.length_append, List.length_cons, List.length_nil]; omega) ?_; intro _ _ hq)
  rw [rounds_succ]
  go_wp2_with (at_builtin; refine wpList_qo_byte rfl _ _ rfl _ rfl rfl rfl (by assumption) (by simp only [List.length_append, List.length_cons, List.length_nil]; omega) ?_; intro _ _ hq)
  rw [rounds_succ]
  go_wp2_with (at_builtin; refine wpList_qo_byte rfl _ _ rfl _ rfl rfl rfl (by assumption) (by simp only [List.length_append, List.length_cons, List.length_nil]; omega) ?_; intro _ _ hq)
  rw [rounds_succ]
  go_wp2_with (at_builtin; refine wpList_qo_byte rfl _ _ rfl _ rfl rfl rfl (by assumption) (by simp only [List.length_append, List.length_cons, List.length_nil]; omega) ?_; intro _ _ hq)
  rw [rounds_succ]
  go_wp2_with (at_builtin; refine wpList_qo_byte rfl _ _ rfl _ rfl rfl rfl (by assumption) (by simp only [List.length_append, List.length_cons, List.length_nil]; omega) ?_; intro _ _ hq)
  rw [rounds_succ]
  go_wp2_with (at_builtin; refine wpList_qo_byte rfl _ _ rfl _ rfl rfl rfl (by assumption) (by simp only [List.length_append, List.length_cons, List.length_nil]; omega) ?_; intro _ _ hq)
  go_ret
  refine ⟨_, rfl, ?_⟩
  rw [HST.out]
  simpa [List.append_assoc, Lib.lowerhex_at, Lib.hexDigits, HD0.out, HD1.out, HD2.out, HD3.out, HD4.out, HD5.out, HD6.out, HD7.out] using hq
theorem coded_any (R : Nat) (hR : R ≤ 1114111) (w : World) :
    Calls Tryd.prog 24 #[.int .i32 (R : Int)] w (CodedPost R w) := by
  by_cases h : R < 65536
  · exact coded_four R h hR w
  · exact coded_eight R h hR w
end Go.Proofs.YtkddmiamdpbgiaaDoor
