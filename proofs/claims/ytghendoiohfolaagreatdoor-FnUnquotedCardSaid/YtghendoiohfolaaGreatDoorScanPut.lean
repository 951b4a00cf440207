/- The reference's scanner: a token put out. -/
import Derived.Test.YtghendoiohfolaaGreatDoorScan
import Derived.Deep.RegionHeld3
import Derived.Deep.DrawnRows
import Derived.Deep.DeepCutAuto
import Derived.BigRegion
import Derived.Deep.AppendLies
import Derived.OrdersHeld
namespace Go.Proofs.YtghendoiohfolaaGreatDoor
set_option linter.unusedSimpArgs false
set_option linter.unusedVariables false
set_option linter.unnecessarySimpa false
open Go.RowKit
attribute [local go_sem ↓] Go.wp_at_zero Go.wp_at_succ
theorem Tryz.infoPiece : (Tryz.prog.info? 40).map (fun i => (i.zero.map (·.cells.size), i.size, i.bytes)) = some (some 12, 12, 144) := by kernel_rfl
/-- A value's cells: a kind and a text; the cells of a piece. -/
def valC (kind : Int) (t : ByteArray) : List Value := [.int .i64 kind, .bool false, .slice none 0 0, .int .u64 0, .string t, .slice none 0 0]
def pieceC (kind : Int) (raw : ByteArray) (vk : Int) (vt : ByteArray) (l c el ec : Int) : List Value := [.int .i64 kind, .string raw, .int .i64 vk, .bool false, .slice none 0 0, .int .u64 0, .string vt, .slice none 0 0, .int .i64 l, .int .i64 c, .int .i64 el, .int .i64 ec]
/-- What was put out: so many pieces, in a row of the scanner's own. -/
def Outs (w : World) (B : Nat) (ov : Value) (n : Nat) (xs : List Value) : Prop := w.ownsRow B 40 12 ov n xs
def PutPost (X B : Nat) (s : ByteArray) (a n : Nat) (bg : Bool) (bk ov : Value) (vd : Int) (m : Nat) (xs : List Value) (kind vk : Int) (vt : ByteArray) (w : World) (e : Ending) (w' : World) : Prop :=
  e = .returned (.tuple #[]) ∧ ∃ (l c el ec : Int) (ov' : Value), Sc w' X s ((a + n : Nat) : Int) el ec bg bk ov' vd ∧ Outs w' B ov' (m + 1) (xs ++ pieceC kind (s.extract a (a + n)) vk vt l c el ec) ∧ Only (fun k => k = X ∨ ov.ownBlock = some k) w w'
set_option maxRecDepth 20000 in
set_option maxHeartbeats 4000000 in
theorem put_any {w : World} {X B : Nat} {s : ByteArray} {ln cl vd : Int} {bg : Bool} {bk ov : Value} (a n m : Nat) (xs : List Value) (kind vk : Int) (vt : ByteArray) (h : Sc w X s a ln cl bg bk ov vd) (ho : Outs w B ov m xs) (hBw : B ≤ w.heap.size) (hm : m ≤ 1000) (hs : s.size ≤ 100000) (ha : a + n ≤ s.size) :
    Calls Tryz.prog 15 #[.pointer (some ⟨X, 0, none⟩), .int .i64 kind, .int .i64 n, .agg #[.int .i64 vk, .bool false, .slice none 0 0, .int .u64 0, .string vt, .slice none 0 0]] w (PutPost X B s a n bg bk ov vd m xs kind vk vt w) := by
  obtain ⟨oa, on, oc, rfl⟩ : ∃ oa on oc, ov = .slice oa on oc := by
    rcases ho.2 with ⟨rfl, _⟩ | ⟨g, cap, cur, rfl, _⟩
    · exact ⟨_, _, _, rfl⟩
    · exact ⟨_, _, _, rfl⟩
  have HS := Lib.hid h
  have HO := Lib.hid ho
  have HBW := Lib.hid hBw
  obtain ⟨c0, c1, c2, c3, -, -, -, -, -⟩ := h.cells
  have hXl := h.lt
  clear h ho hBw
  obtain ⟨q, hq⟩ : ∃ q : Nat, (a : Int) + (n : Int) = (q : Int) := ⟨a + n, by omega⟩
  have HM : Hid (q = a + n) := by unfold Hid; omega
  have hw1 : IntKind.i64.wrap ((a : Int) + (n : Int)) = (q : Int) := by rw [hq]; exact IntWalk.i64_in _ (by omega)
  have g1 : (q : Int) ≤ (s.size : Int) := by omega
  have g2 : (a : Int) ≤ (q : Int) := by omega
  have g3 : (0 : Int) ≤ (a : Int) := by omega
  have g4 : a ≤ q := by omega
  have g5 : q ≤ s.size := by omega
  clear hq
  go_enter Tryz.func15, Tryz.ntmps15
  go_wp2_with fail
  go_region_held3 (fun W => (W.cell? ⟨X, 0, none⟩ = some (.string s) ∧ W.cell? ⟨X, 1, none⟩ = some (.int .i64 (a : Int)) ∧ W.cell? ⟨X, 2, none⟩ = some (.int .i64 ln) ∧ W.cell? ⟨X, 3, none⟩ = some (.int .i64 cl)) ∧ W.cell? ⟨w.heap.size, 0, none⟩ = some (.int .i64 vk) ∧ W.cell? ⟨w.heap.size, 1, none⟩ = some (.bool false) ∧ W.cell? ⟨w.heap.size, 2, none⟩ = some (.slice none 0 0) ∧ W.cell? ⟨w.heap.size, 3, none⟩ = some (.int .u64 0) ∧ W.cell? ⟨w.heap.size, 4, none⟩ = some (.string vt) ∧ W.cell? ⟨w.heap.size, 5, none⟩ = some (.slice none 0 0)) (go_keep) (fail)
  obtain ⟨W, hW⟩ : ∃ W, W = ((w.alloc (.cells #[.int .i64 vk, .bool false, .slice none 0 0, .int .u64 0, .string vt, .slice none 0 0] 28)).alloc (.cells #[.int .i64 kind, .string (s.extract a q), .int .i64 vk, .bool false, .slice none 0 0, .int .u64 0, .string vt, .slice none 0 0, .int .i64 ln, .int .i64 cl, .int .i64 0, .int .i64 0] 40)).drew := ⟨_, rfl⟩
  rw [← hW]
  obtain ⟨N, hN⟩ : ∃ N, N = w.heap.size + 1 := ⟨_, rfl⟩
  have HB : Hid (Blk W N 40 #[.int .i64 kind, .string (s.extract a q), .int .i64 vk, .bool false, .slice none 0 0, .int .u64 0, .string vt, .slice none 0 0, .int .i64 ln, .int .i64 cl, .int .i64 0, .int .i64 0]) := by rw [hW, hN]; exact Blk.new_at _ _ _ (by simp)
  have HSW : Hid (Sc W X s a ln cl bg bk (.slice oa on oc) vd) := by rw [hW]; exact ((HS.out.alloc _).alloc _).drew
  have HOW : Hid (Outs W B (.slice oa on oc) m xs) := by rw [hW]; exact (World.ownsRow.drew ((World.ownsRow.alloc HO.out _).alloc _))
  have HBL : Hid (Only (fun _ => False) w W) := by rw [hW]; exact (((Only.refl _ w).alloc _).alloc _).drew
  have HWS : Hid (W.heap.size = w.heap.size + 2) := by rw [hW]; show (World.drew _).heap.size = _; simp
  have HN := Lib.hid hN
  have hXN : X ≠ N := by omega
  have hNl : N < W.heap.size := by rw [HWS.out]; omega
  have hNw : w.heap.size ≤ N := by omega
  first | rw [← hN] | skip
  clear hW hN c0 c1 c2 c3
  go_wp2_with fail
  refine (move_any a n HSW.out hs ha).mono ?_
  rintro e w2 ⟨rfl, ⟨el, ec, hsc2⟩, hon2⟩
  have HSC2 := Lib.hid hsc2
  have HON2 := Lib.hid hon2
  have HB2 : Hid (Blk w2 N 40 #[.int .i64 kind, .string (s.extract a q), .int .i64 vk, .bool false, .slice none 0 0, .int .u64 0, .string vt, .slice none 0 0, .int .i64 ln, .int .i64 cl, .int .i64 0, .int .i64 0]) := Blk.only HB.out hon2 (fun e => hXN e.symm)
  obtain ⟨-, -, d2, d3, -, -, -, -, -⟩ := hsc2.cells
  have q10 : w2.cell? ⟨N, 10, none⟩ = some (.int .i64 0) := by rw [HB2.out.cell 10]; rfl
  have q11 : w2.cell? ⟨N, 11, none⟩ = some (.int .i64 0) := by rw [HB2.out.cell 11]; rfl
  have f10 : w2.frozen? ⟨N, 10, none⟩ = false := HB2.out.frozen 10
  have f11 : w2.frozen? ⟨N, 11, none⟩ = false := HB2.out.frozen 11
  clear hsc2 hon2
  go_wp2_with fail
  go_region
  obtain ⟨w3, hw3⟩ : ∃ w3, w3 = ((w2.setCell ⟨N, 10, none⟩ (.int .i64 el)).setCell ⟨N, 11, none⟩ (.int .i64 ec)).drew := ⟨_, rfl⟩
  rw [← hw3]
  have HB3 : Hid (Blk w3 N 40 #[.int .i64 kind, .string (s.extract a q), .int .i64 vk, .bool false, .slice none 0 0, .int .u64 0, .string vt, .slice none 0 0, .int .i64 ln, .int .i64 cl, .int .i64 el, .int .i64 ec]) := by
    rw [hw3]
    exact ((HB2.out.put 10 (.int .i64 el)).put 11 (.int .i64 ec)).drew
  have HSC3 : Hid (Sc w3 X s ((a + n : Nat) : Int) el ec bg bk (.slice oa on oc) vd) := by rw [hw3]; exact ((HSC2.out.far (p := ⟨N, 10, none⟩) hXN _).far (p := ⟨N, 11, none⟩) hXN _).drew
  have HON3 : Hid (Only (· = X) w w3) := by
    rw [hw3]
    have h1 : Only (· = X) w w2 := ⟨HON2.out.os.trans HBL.out.os, HON2.out.tape.trans HBL.out.tape, HON2.out.output.trans HBL.out.output, Nat.le_trans HBL.out.size HON2.out.size, fun i hi hs => (HON2.out.block i (Nat.lt_of_lt_of_le hi HBL.out.size) hs).trans (HBL.out.block i hi (fun h => h))⟩
    exact ((h1.setCell (p := ⟨N, 10, none⟩) (.inr hNw) _).setCell (p := ⟨N, 11, none⟩) (.inr hNw) _).drew
  have hovX : ∀ k, (Value.slice oa on oc).ownBlock = some k → k ≠ X := fun k hk => own_ne_blk HO.out HS.out (by decide) k hk
  have HOX := Lib.hid hovX
  have HO3 : Hid (Outs w3 B (.slice oa on oc) m xs) := own_only HO.out HON3.out (fun g hg e => HOX.out g hg e)
  have hz3 := HON3.out.size
  have HZ3 : Hid (B ≤ w3.heap.size) := Nat.le_trans HBW.out hz3
  clear hw3 hovX d2 d3 q10 q11 f10 f11 hz3 hNl hNw
  obtain ⟨-, -, -, -, -, -, -, c7, -⟩ := HSC3.out.cells
  have f7 := HSC3.out.fz 7
  have n0 : w3.cell? ⟨N, 0, none⟩ = some (.int .i64 kind) := by rw [HB3.out.cell 0]; rfl
  have n1 : w3.cell? ⟨N, 1, none⟩ = some (.string (s.extract a q)) := by rw [HB3.out.cell 1]; rfl
  have n2 : w3.cell? ⟨N, 2, none⟩ = some (.int .i64 vk) := by rw [HB3.out.cell 2]; rfl
  have n3 : w3.cell? ⟨N, 3, none⟩ = some (.bool false) := by rw [HB3.out.cell 3]; rfl
  have n4 : w3.cell? ⟨N, 4, none⟩ = some (.slice none 0 0) := by rw [HB3.out.cell 4]; rfl
  have n5 : w3.cell? ⟨N, 5, none⟩ = some (.int .u64 0) := by rw [HB3.out.cell 5]; rfl
  have n6 : w3.cell? ⟨N, 6, none⟩ = some (.string vt) := by rw [HB3.out.cell 6]; rfl
  have n7 : w3.cell? ⟨N, 7, none⟩ = some (.slice none 0 0) := by rw [HB3.out.cell 7]; rfl
  have n8 : w3.cell? ⟨N, 8, none⟩ = some (.int .i64 ln) := by rw [HB3.out.cell 8]; rfl
  have n9 : w3.cell? ⟨N, 9, none⟩ = some (.int .i64 cl) := by rw [HB3.out.cell 9]; rfl
  have n10 : w3.cell? ⟨N, 10, none⟩ = some (.int .i64 el) := by rw [HB3.out.cell 10]; rfl
  have n11 : w3.cell? ⟨N, 11, none⟩ = some (.int .i64 ec) := by rw [HB3.out.cell 11]; rfl
  go_wp2_with fail
  -- REGION
  have SOF : ∀ W : World, Blk W N 40 #[.int .i64 kind, .string (s.extract a q), .int .i64 vk, .bool false, .slice none 0 0, .int .u64 0, .string vt, .slice none 0 0, .int .i64 ln, .int .i64 cl, .int .i64 el, .int .i64 ec] → W.cell? ⟨N, 0, none⟩ = some (.int .i64 kind) ∧ W.cell? ⟨N, 1, none⟩ = some (.string (s.extract a q)) ∧ W.cell? ⟨N, 2, none⟩ = some (.int .i64 vk) ∧ W.cell? ⟨N, 3, none⟩ = some (.bool false) ∧ W.cell? ⟨N, 4, none⟩ = some (.slice none 0 0) ∧ W.cell? ⟨N, 5, none⟩ = some (.int .u64 0) ∧ W.cell? ⟨N, 6, none⟩ = some (.string vt) ∧ W.cell? ⟨N, 7, none⟩ = some (.slice none 0 0) ∧ W.cell? ⟨N, 8, none⟩ = some (.int .i64 ln) ∧ W.cell? ⟨N, 9, none⟩ = some (.int .i64 cl) ∧ W.cell? ⟨N, 10, none⟩ = some (.int .i64 el) ∧ W.cell? ⟨N, 11, none⟩ = some (.int .i64 ec) := fun W h2 => ⟨(h2.cell 0).trans rfl, (h2.cell 1).trans rfl, (h2.cell 2).trans rfl, (h2.cell 3).trans rfl, (h2.cell 4).trans rfl, (h2.cell 5).trans rfl, (h2.cell 6).trans rfl, (h2.cell 7).trans rfl, (h2.cell 8).trans rfl, (h2.cell 9).trans rfl, (h2.cell 10).trans rfl, (h2.cell 11).trans rfl⟩
  have SOF2 := Lib.hid SOF
  clear SOF
  have hX3 : X < w3.heap.size := HSC3.out.lt
  obtain ⟨N3, hN3⟩ : ∃ N3, N3 = w3.heap.size := ⟨_, rfl⟩
  have HN3 := Lib.hid hN3
  clear hN3
  obtain ⟨i0, hi, hz⟩ := Option.map_eq_some_iff.1 Tryz.infoPiece
  simp only [Prod.mk.injEq] at hz
  obtain ⟨hz0, hz1, hz2⟩ := hz
  obtain ⟨z0, hz0, hzs⟩ := Option.map_eq_some_iff.1 hz0
  have HI := Lib.hid hi
  have HZ0 := Lib.hid hz0
  have HZ1 := Lib.hid hz1
  have HZ2 := Lib.hid hz2
  have HZS := Lib.hid hzs
  clear hi hz0 hz1 hz2 hzs
  refine wp_region_held_drew (S := (fun W => W.cell? ⟨N, 0, none⟩ = some (.int .i64 kind) ∧ W.cell? ⟨N, 1, none⟩ = some (.string (s.extract a q)) ∧ W.cell? ⟨N, 2, none⟩ = some (.int .i64 vk) ∧ W.cell? ⟨N, 3, none⟩ = some (.bool false) ∧ W.cell? ⟨N, 4, none⟩ = some (.slice none 0 0) ∧ W.cell? ⟨N, 5, none⟩ = some (.int .u64 0) ∧ W.cell? ⟨N, 6, none⟩ = some (.string vt) ∧ W.cell? ⟨N, 7, none⟩ = some (.slice none 0 0) ∧ W.cell? ⟨N, 8, none⟩ = some (.int .i64 ln) ∧ W.cell? ⟨N, 9, none⟩ = some (.int .i64 cl) ∧ W.cell? ⟨N, 10, none⟩ = some (.int .i64 el) ∧ W.cell? ⟨N, 11, none⟩ = some (.int .i64 ec))) (by kernel_rfl) ⟨n0, n1, n2, n3, n4, n5, n6, n7, n8, n9, n10, n11⟩ (fun hHeld => ?_)
  refine wpAnyH_take (i := 0) (v := ?_) rfl (by kernel_rfl) (by kernel_rfl) (by kernel_rfl) (fun _ _ _ h => h) (Or.inl ⟨by rfl, ?_⟩) (by assumption) ?_
  rotate_left
  · intro w9 hSw
    (try dsimp only at hSw)
    go_simp
    (try with_reducible rfl)
  try simp only [Act.put, List.getElem_toArray, List.getElem_cons_zero, List.getElem_cons_succ, List.setIfInBounds_toArray, List.set_cons_zero, List.set_cons_succ]
  refine wpAnyH_take (i := 1) (v := ?_) rfl (by kernel_rfl) (by kernel_rfl) (by kernel_rfl) (fun _ _ _ h => h) (Or.inl ⟨by rfl, ?_⟩) (by assumption) ?_
  rotate_left
  · intro w9 hSw
    (try dsimp only at hSw)
    go_simp
    (try with_reducible rfl)
  try simp only [Act.put, List.getElem_toArray, List.getElem_cons_zero, List.getElem_cons_succ, List.setIfInBounds_toArray, List.set_cons_zero, List.set_cons_succ]
  refine wpAnyH_take (i := 2) (v := ?_) rfl (by kernel_rfl) (by kernel_rfl) (by kernel_rfl) (fun _ _ _ h => h) (Or.inl ⟨by rfl, ?_⟩) (by assumption) ?_
  rotate_left
  · intro w9 hSw
    (try dsimp only at hSw)
    go_simp
    (try with_reducible rfl)
  try simp only [Act.put, List.getElem_toArray, List.getElem_cons_zero, List.getElem_cons_succ, List.setIfInBounds_toArray, List.set_cons_zero, List.set_cons_succ]
  refine wpAnyH_take (i := 3) (v := ?_) rfl (by kernel_rfl) (by kernel_rfl) (by kernel_rfl) (fun _ _ _ h => h) (Or.inl ⟨by rfl, ?_⟩) (by assumption) ?_
  rotate_left
  · intro w9 hSw
    (try dsimp only at hSw)
    go_simp
    (try with_reducible rfl)
  try simp only [Act.put, List.getElem_toArray, List.getElem_cons_zero, List.getElem_cons_succ, List.setIfInBounds_toArray, List.set_cons_zero, List.set_cons_succ]
  refine wpAnyH_take (i := 5) (v := ?_) rfl (by kernel_rfl) (by kernel_rfl) (by kernel_rfl) (fun _ _ _ h => h) (Or.inl ⟨by rfl, ?_⟩) (by assumption) ?_
  rotate_left
  · intro w9 hSw
    (try dsimp only at hSw)
    go_simp
    (try with_reducible rfl)
  try simp only [Act.put, List.getElem_toArray, List.getElem_cons_zero, List.getElem_cons_succ, List.setIfInBounds_toArray, List.set_cons_zero, List.set_cons_succ]
  refine wpAnyH_ready (rs := [4, 6]) (by kernel_rfl) (by simp) ?_
  refine AllReadyH.cons rfl (fun K hK => ?_) (AllReadyH.cons rfl (fun K hK => ?_) AllReadyH.nil)
  · go_simp
    refine hK.out _ _ (SOF2.out _ HB3.out.drew) (fun hHeld => ?_)
    clear hK K
    try simp only [Act.put, List.getElem_toArray, List.getElem_cons_zero, List.getElem_cons_succ, List.setIfInBounds_toArray, List.set_cons_zero, List.set_cons_succ]
    refine wpAnyH_ready (rs := [6]) (by kernel_rfl) (by simp) ?_
    refine AllReadyH.cons rfl (fun K hK => ?_) AllReadyH.nil
    go_simp
    refine hK.out _ _ (SOF2.out _ ((HB3.out.alloc _).drew)) (fun hHeld => ?_)
    clear hK K
    try simp only [Act.put, List.getElem_toArray, List.getElem_cons_zero, List.getElem_cons_succ, List.setIfInBounds_toArray, List.set_cons_zero, List.set_cons_succ]
    obtain ⟨W4, hW4⟩ : ∃ W4, W4 = (w3.alloc (.cells #[.int .i64 kind, .string (s.extract a q), .int .i64 vk, .bool false, .slice none 0 0, .int .u64 0, .string vt, .slice none 0 0, .int .i64 ln, .int .i64 cl, .int .i64 el, .int .i64 ec] 40)).drew := ⟨_, rfl⟩
    try rw [← hW4]
    have HB4 : Hid (Blk W4 N 40 #[.int .i64 kind, .string (s.extract a q), .int .i64 vk, .bool false, .slice none 0 0, .int .u64 0, .string vt, .slice none 0 0, .int .i64 ln, .int .i64 cl, .int .i64 el, .int .i64 ec]) := by rw [hW4]; exact (HB3.out.alloc _).drew
    have HSC4 : Hid (Sc W4 X s ((a + n : Nat) : Int) el ec bg bk (.slice oa on oc) vd) := by rw [hW4]; exact (HSC3.out.alloc _).drew
    have HO4 : Hid (W4.ownsRow B 40 12 (.slice oa on oc) m xs) := by rw [hW4]; exact World.ownsRow.drew (World.ownsRow.alloc HO3.out _)
    have HON4 : Hid (Only (· = X) w W4) := by rw [hW4]; exact (HON3.out.alloc _).drew
    have HNW : Hid (∀ (j : Nat) (u : Value), ([.int .i64 kind, .string (s.extract a q), .int .i64 vk, .bool false, .slice none 0 0, .int .u64 0, .string vt, .slice none 0 0, .int .i64 ln, .int .i64 cl, .int .i64 el, .int .i64 ec] : List Value)[j]? = some u → W4.cell? (Addr.add ⟨w3.heap.size, 0, none⟩ j) = some u) := by
      intro j u hj
      rw [Addr.add_lit, hW4, Nat.zero_add]
      have hc := (Blk.new w3 40 #[.int .i64 kind, .string (s.extract a q), .int .i64 vk, .bool false, .slice none 0 0, .int .u64 0, .string vt, .slice none 0 0, .int .i64 ln, .int .i64 cl, .int .i64 el, .int .i64 ec]).drew.cell j
      rw [hc, ← hj]
      simp
    have HZ4 : Hid (W4.heap.size = w3.heap.size + 1) := by rw [hW4]; show (World.drew _).heap.size = _; simp
    clear hW4
    refine wpAnyH_ready (rs := [7]) (by kernel_rfl) (by simp) ?_
    refine AllReadyH.cons rfl (fun K hK => ?_) AllReadyH.nil
    refine step_append_lies _ (by rfl) (.tmp 52) (.tmp 54) 36 (by rfl) B 40 i0 z0 12 144 Tryz.underlying36 HI.out HZ0.out HZ1.out HZ2.out HZS.out (by decide) (.slice oa on oc) m xs (by rfl) HO4.out ⟨w3.heap.size, 0, none⟩ 1 1 [.int .i64 kind, .string (s.extract a q), .int .i64 vk, .bool false, .slice none 0 0, .int .u64 0, .string vt, .slice none 0 0, .int .i64 ln, .int .i64 cl, .int .i64 el, .int .i64 ec] (by rfl) (by rfl) HNW.out (by simp [Value.oneCell']) (by decide) (by unfold maxLen; omega) (by omega) (by have := HZ4.out; have := HZ3.out; omega) (w3.heap.size + 1) HZ4.out ?_
    intro g cap w5 hown5 hgrow5 hat5 hlt5
    have HSC5 : Hid (Sc w5 X s ((a + n : Nat) : Int) el ec bg bk (.slice oa on oc) vd) := Blk.grown HSC4.out hgrow5 (fun e => HOX.out X e.symm rfl)
    have HB5 : Hid (Blk w5 N 40 #[.int .i64 kind, .string (s.extract a q), .int .i64 vk, .bool false, .slice none 0 0, .int .u64 0, .string vt, .slice none 0 0, .int .i64 ln, .int .i64 cl, .int .i64 el, .int .i64 ec]) := Blk.grown HB4.out hgrow5 (fun e => by have := (HO.out.lt N e.symm).2; have := HN.out; omega)
    have HON5 : Hid (Only (fun k => k = X ∨ (Value.slice oa on oc).ownBlock = some k) w w5) := (HON4.out.mono (fun k _ e => .inl e)).grown hgrow5 (fun k e => .inl (.inr e))
    have HOWN5 := Lib.hid hown5
    have HLT5 := Lib.hid hlt5
    have HAT5 := Lib.hid hat5
    clear hown5 hlt5 hgrow5 hat5
    refine hK.out _ _ (SOF2.out _ HB5.out) (fun hHeld => ?_)
    clear hK K
    try simp only [Act.put, List.getElem_toArray, List.getElem_cons_zero, List.getElem_cons_succ, List.setIfInBounds_toArray, List.set_cons_zero, List.set_cons_succ]
    refine wpAnyH_take (i := 8) (v := ?_) rfl (by kernel_rfl) (by kernel_rfl) (by kernel_rfl) (fun _ _ _ h => h) (Or.inl ⟨by rfl, ?_⟩) (by assumption) ?_
    rotate_left
    · intro w9 hSw
      (try dsimp only at hSw)
      go_simp
      (try with_reducible rfl)
    try simp only [Act.put, List.getElem_toArray, List.getElem_cons_zero, List.getElem_cons_succ, List.setIfInBounds_toArray, List.set_cons_zero, List.set_cons_succ]
    refine wpAnyH_take (i := 9) (v := ?_) rfl (by kernel_rfl) (by kernel_rfl) (by kernel_rfl) (fun _ _ _ h => h) (Or.inl ⟨by rfl, ?_⟩) (by assumption) ?_
    rotate_left
    · intro w9 hSw
      (try dsimp only at hSw)
      go_simp
      (try with_reducible rfl)
    try simp only [Act.put, List.getElem_toArray, List.getElem_cons_zero, List.getElem_cons_succ, List.setIfInBounds_toArray, List.set_cons_zero, List.set_cons_succ]
    have k7 : w5.cell? ⟨X, 7, none⟩ = some (.slice oa on oc) := HSC5.out.cells.2.2.2.2.2.2.2.1
    have kf7 : w5.frozen? ⟨X, 7, none⟩ = false := HSC5.out.fz 7
    refine wpAnyH_ready (rs := [10]) (by kernel_rfl) (by simp) ?_
    refine AllReadyH.cons rfl (fun K hK => ?_) AllReadyH.nil
    go_simp
    refine hK.out _ _ (SOF2.out _ (HB5.out.far (p := ⟨X, 7, none⟩) (fun e => hXN e.symm) _)) (fun hHeld => ?_)
    clear hK K
    try simp only [Act.put, List.getElem_toArray, List.getElem_cons_zero, List.getElem_cons_succ, List.setIfInBounds_toArray, List.set_cons_zero, List.set_cons_succ]
    refine wpAnyH_done (by kernel_rfl) ?_ _
    go_wp2_with fail
    go_end0
    obtain rfl := HM.out
    refine ⟨rfl, ln, cl, el, ec, _, HSC5.out.put7 _, ?_, HON5.out.setCell (p := ⟨X, 7, none⟩) (.inl (.inl rfl)) _⟩
    exact own_only HOWN5.out ((Only.refl (· = X) w5).setCell (p := ⟨X, 7, none⟩) (.inl rfl) _) (fun g hg e => own_ne_blk HOWN5.out HSC5.out (by decide) g hg e)
  · go_simp
    refine hK.out _ _ (SOF2.out _ ((HB3.out.alloc _).drew)) (fun hHeld => ?_)
    clear hK K
    try simp only [Act.put, List.getElem_toArray, List.getElem_cons_zero, List.getElem_cons_succ, List.setIfInBounds_toArray, List.set_cons_zero, List.set_cons_succ]
    refine wpAnyH_ready (rs := [4]) (by kernel_rfl) (by simp) ?_
    refine AllReadyH.cons rfl (fun K hK => ?_) AllReadyH.nil
    go_simp
    refine hK.out _ _ (SOF2.out _ ((HB3.out.alloc _).drew)) (fun hHeld => ?_)
    clear hK K
    try simp only [Act.put, List.getElem_toArray, List.getElem_cons_zero, List.getElem_cons_succ, List.setIfInBounds_toArray, List.set_cons_zero, List.set_cons_succ]
    obtain ⟨W4, hW4⟩ : ∃ W4, W4 = (w3.alloc (.cells #[.int .i64 kind, .string (s.extract a q), .int .i64 vk, .bool false, .slice none 0 0, .int .u64 0, .string vt, .slice none 0 0, .int .i64 ln, .int .i64 cl, .int .i64 el, .int .i64 ec] 40)).drew := ⟨_, rfl⟩
    try rw [← hW4]
    have HB4 : Hid (Blk W4 N 40 #[.int .i64 kind, .string (s.extract a q), .int .i64 vk, .bool false, .slice none 0 0, .int .u64 0, .string vt, .slice none 0 0, .int .i64 ln, .int .i64 cl, .int .i64 el, .int .i64 ec]) := by rw [hW4]; exact (HB3.out.alloc _).drew
    have HSC4 : Hid (Sc W4 X s ((a + n : Nat) : Int) el ec bg bk (.slice oa on oc) vd) := by rw [hW4]; exact (HSC3.out.alloc _).drew
    have HO4 : Hid (W4.ownsRow B 40 12 (.slice oa on oc) m xs) := by rw [hW4]; exact World.ownsRow.drew (World.ownsRow.alloc HO3.out _)
    have HON4 : Hid (Only (· = X) w W4) := by rw [hW4]; exact (HON3.out.alloc _).drew
    have HNW : Hid (∀ (j : Nat) (u : Value), ([.int .i64 kind, .string (s.extract a q), .int .i64 vk, .bool false, .slice none 0 0, .int .u64 0, .string vt, .slice none 0 0, .int .i64 ln, .int .i64 cl, .int .i64 el, .int .i64 ec] : List Value)[j]? = some u → W4.cell? (Addr.add ⟨w3.heap.size, 0, none⟩ j) = some u) := by
      intro j u hj
      rw [Addr.add_lit, hW4, Nat.zero_add]
      have hc := (Blk.new w3 40 #[.int .i64 kind, .string (s.extract a q), .int .i64 vk, .bool false, .slice none 0 0, .int .u64 0, .string vt, .slice none 0 0, .int .i64 ln, .int .i64 cl, .int .i64 el, .int .i64 ec]).drew.cell j
      rw [hc, ← hj]
      simp
    have HZ4 : Hid (W4.heap.size = w3.heap.size + 1) := by rw [hW4]; show (World.drew _).heap.size = _; simp
    clear hW4
    refine wpAnyH_ready (rs := [7]) (by kernel_rfl) (by simp) ?_
    refine AllReadyH.cons rfl (fun K hK => ?_) AllReadyH.nil
    refine step_append_lies _ (by rfl) (.tmp 52) (.tmp 54) 36 (by rfl) B 40 i0 z0 12 144 Tryz.underlying36 HI.out HZ0.out HZ1.out HZ2.out HZS.out (by decide) (.slice oa on oc) m xs (by rfl) HO4.out ⟨w3.heap.size, 0, none⟩ 1 1 [.int .i64 kind, .string (s.extract a q), .int .i64 vk, .bool false, .slice none 0 0, .int .u64 0, .string vt, .slice none 0 0, .int .i64 ln, .int .i64 cl, .int .i64 el, .int .i64 ec] (by rfl) (by rfl) HNW.out (by simp [Value.oneCell']) (by decide) (by unfold maxLen; omega) (by omega) (by have := HZ4.out; have := HZ3.out; omega) (w3.heap.size + 1) HZ4.out ?_
    intro g cap w5 hown5 hgrow5 hat5 hlt5
    have HSC5 : Hid (Sc w5 X s ((a + n : Nat) : Int) el ec bg bk (.slice oa on oc) vd) := Blk.grown HSC4.out hgrow5 (fun e => HOX.out X e.symm rfl)
    have HB5 : Hid (Blk w5 N 40 #[.int .i64 kind, .string (s.extract a q), .int .i64 vk, .bool false, .slice none 0 0, .int .u64 0, .string vt, .slice none 0 0, .int .i64 ln, .int .i64 cl, .int .i64 el, .int .i64 ec]) := Blk.grown HB4.out hgrow5 (fun e => by have := (HO.out.lt N e.symm).2; have := HN.out; omega)
    have HON5 : Hid (Only (fun k => k = X ∨ (Value.slice oa on oc).ownBlock = some k) w w5) := (HON4.out.mono (fun k _ e => .inl e)).grown hgrow5 (fun k e => .inl (.inr e))
    have HOWN5 := Lib.hid hown5
    have HLT5 := Lib.hid hlt5
    have HAT5 := Lib.hid hat5
    clear hown5 hlt5 hgrow5 hat5
    refine hK.out _ _ (SOF2.out _ HB5.out) (fun hHeld => ?_)
    clear hK K
    try simp only [Act.put, List.getElem_toArray, List.getElem_cons_zero, List.getElem_cons_succ, List.setIfInBounds_toArray, List.set_cons_zero, List.set_cons_succ]
    refine wpAnyH_take (i := 8) (v := ?_) rfl (by kernel_rfl) (by kernel_rfl) (by kernel_rfl) (fun _ _ _ h => h) (Or.inl ⟨by rfl, ?_⟩) (by assumption) ?_
    rotate_left
    · intro w9 hSw
      (try dsimp only at hSw)
      go_simp
      (try with_reducible rfl)
    try simp only [Act.put, List.getElem_toArray, List.getElem_cons_zero, List.getElem_cons_succ, List.setIfInBounds_toArray, List.set_cons_zero, List.set_cons_succ]
    refine wpAnyH_take (i := 9) (v := ?_) rfl (by kernel_rfl) (by kernel_rfl) (by kernel_rfl) (fun _ _ _ h => h) (Or.inl ⟨by rfl, ?_⟩) (by assumption) ?_
    rotate_left
    · intro w9 hSw
      (try dsimp only at hSw)
      go_simp
      (try with_reducible rfl)
    try simp only [Act.put, List.getElem_toArray, List.getElem_cons_zero, List.getElem_cons_succ, List.setIfInBounds_toArray, List.set_cons_zero, List.set_cons_succ]
    have k7 : w5.cell? ⟨X, 7, none⟩ = some (.slice oa on oc) := HSC5.out.cells.2.2.2.2.2.2.2.1
    have kf7 : w5.frozen? ⟨X, 7, none⟩ = false := HSC5.out.fz 7
    refine wpAnyH_ready (rs := [10]) (by kernel_rfl) (by simp) ?_
    refine AllReadyH.cons rfl (fun K hK => ?_) AllReadyH.nil
    go_simp
    refine hK.out _ _ (SOF2.out _ (HB5.out.far (p := ⟨X, 7, none⟩) (fun e => hXN e.symm) _)) (fun hHeld => ?_)
    clear hK K
    try simp only [Act.put, List.getElem_toArray, List.getElem_cons_zero, List.getElem_cons_succ, List.setIfInBounds_toArray, List.set_cons_zero, List.set_cons_succ]
    refine wpAnyH_done (by kernel_rfl) ?_ _
    go_wp2_with fail
    go_end0
    obtain rfl := HM.out
    refine ⟨rfl, ln, cl, el, ec, _, HSC5.out.put7 _, ?_, HON5.out.setCell (p := ⟨X, 7, none⟩) (.inl (.inl rfl)) _⟩
    exact own_only HOWN5.out ((Only.refl (· = X) w5).setCell (p := ⟨X, 7, none⟩) (.inl rfl) _) (fun g hg e => own_ne_blk HOWN5.out HSC5.out (by decide) g hg e)
end Go.Proofs.YtghendoiohfolaaGreatDoor
