/- The reference's Only: steps of some kinds alone. -/
import Derived.Test.YteibkaonofkcbaaGreatTupJoinM
import Derived.Deep.DeepCutAuto
import Derived.Deep.RegionHeld3
import Derived.BigQuiet
import Derived.OrdersHeld
import Derived.Deep.MidRow
namespace Go.Proofs.YteibkaonofkcbaaGreat
open Go.RowKit
set_option linter.unusedSimpArgs false
set_option linter.unusedVariables false
attribute [local go_sem ↓] Go.wp_at_zero Go.wp_at_succ
/-- A step that is handed in. -/
def StepAt (W : World) (p : Addr) : Prop :=
  ∃ k i j m : Int, W.cell? p = some (.int .i64 k) ∧ W.cell? (p.add 1) = some (.int .i64 i) ∧ W.cell? (p.add 2) = some (.int .i64 j) ∧ W.cell? (p.add 3) = some (.int .i64 m) ∧ ValAt W (p.add 4) ∧ ValAt W (p.add 10)
def StepsIn (W : World) (a : Option Addr) (len cap : Nat) : Prop :=
  (a = none ∧ len = 0 ∧ cap = 0) ∨ ∃ x, a = some x ∧ len ≤ cap ∧ cap ≤ maxLen ∧ ∀ i, i < len → StepAt W (x.add (i * 17))
theorem StepAt.below {w w' : World} {p : Addr} (h : StepAt w p) (hb : Below w.heap.size w w') : StepAt w' p := by
  obtain ⟨k, i, j, m, c0, c1, c2, c3, hA, hB⟩ := h
  have hl : p.block < w.heap.size := World.block_lt_of_cell? w _ c0
  exact ⟨k, i, j, m, (hb.cell (p := p) hl).trans c0, (hb.cell (p := p.add 1) hl).trans c1, (hb.cell (p := p.add 2) hl).trans c2, (hb.cell (p := p.add 3) hl).trans c3, hA.below hb, hB.below hb⟩
theorem StepsIn.below {w w' : World} {a : Option Addr} {len cap : Nat} (h : StepsIn w a len cap) (hb : Below w.heap.size w w') : StepsIn w' a len cap := by
  rcases h with h | ⟨x, h0, h1, h2, h3⟩
  · exact .inl h
  · exact .inr ⟨x, h0, h1, h2, fun i hi => (h3 i hi).below hb⟩
/-- A step made ready: the box of s. -/
def OnlyR (wr wx : World) (si sj sm : Int) (s9 : Value) : Prop :=
  ∃ (R : Nat) (ka : Int) (na : Bool) (aa : Option Addr) (ma ca : Nat) (ba : Int) (xa : ByteArray) (kb : Int) (nb : Bool) (ab : Option Addr) (mb cb : Nat) (bb : Int) (xb : ByteArray), s9 = .pointer (some ⟨R, 0, none⟩) ∧ wr.heap.size ≤ R ∧ Blk wx R 35 #[.int .i64 4, .int .i64 si, .int .i64 sj, .int .i64 sm, .int .i64 ka, .bool na, .slice aa ma ca, .int .u64 ba, .string xa, .slice none 0 0, .int .i64 kb, .bool nb, .slice ab mb cb, .int .u64 bb, .string xb, .slice none 0 0, .slice none 0 0] ∧ Below wr.heap.size wr wx
theorem blk17 {w : World} {g : Nat} {t : TypeId} {d0 d1 d2 d3 d4 d5 d6 d7 d8 d9 d10 d11 d12 d13 d14 d15 d16 : Value} (h : Blk w g t #[d0, d1, d2, d3, d4, d5, d6, d7, d8, d9, d10, d11, d12, d13, d14, d15, d16]) :
    w.cell? ⟨g, 0, none⟩ = some d0 ∧ w.cell? ⟨g, 1, none⟩ = some d1 ∧ w.cell? ⟨g, 2, none⟩ = some d2 ∧ w.cell? ⟨g, 3, none⟩ = some d3 ∧ w.cell? ⟨g, 4, none⟩ = some d4 ∧ w.cell? ⟨g, 5, none⟩ = some d5 ∧ w.cell? ⟨g, 6, none⟩ = some d6 ∧ w.cell? ⟨g, 7, none⟩ = some d7 ∧ w.cell? ⟨g, 8, none⟩ = some d8 ∧ w.cell? ⟨g, 9, none⟩ = some d9 ∧ w.cell? ⟨g, 10, none⟩ = some d10 ∧ w.cell? ⟨g, 11, none⟩ = some d11 ∧ w.cell? ⟨g, 12, none⟩ = some d12 ∧ w.cell? ⟨g, 13, none⟩ = some d13 ∧ w.cell? ⟨g, 14, none⟩ = some d14 ∧ w.cell? ⟨g, 15, none⟩ = some d15 ∧ w.cell? ⟨g, 16, none⟩ = some d16 ∧
    w.frozen? ⟨g, 0, none⟩ = false ∧ w.frozen? ⟨g, 1, none⟩ = false ∧ w.frozen? ⟨g, 2, none⟩ = false ∧ w.frozen? ⟨g, 3, none⟩ = false ∧ w.frozen? ⟨g, 4, none⟩ = false ∧ w.frozen? ⟨g, 5, none⟩ = false ∧ w.frozen? ⟨g, 6, none⟩ = false ∧ w.frozen? ⟨g, 7, none⟩ = false ∧ w.frozen? ⟨g, 8, none⟩ = false ∧ w.frozen? ⟨g, 9, none⟩ = false ∧ w.frozen? ⟨g, 10, none⟩ = false ∧ w.frozen? ⟨g, 11, none⟩ = false ∧ w.frozen? ⟨g, 12, none⟩ = false ∧ w.frozen? ⟨g, 13, none⟩ = false ∧ w.frozen? ⟨g, 14, none⟩ = false ∧ w.frozen? ⟨g, 15, none⟩ = false ∧ w.frozen? ⟨g, 16, none⟩ = false :=
  ⟨(h.cell 0).trans rfl, (h.cell 1).trans rfl, (h.cell 2).trans rfl, (h.cell 3).trans rfl, (h.cell 4).trans rfl, (h.cell 5).trans rfl, (h.cell 6).trans rfl, (h.cell 7).trans rfl, (h.cell 8).trans rfl, (h.cell 9).trans rfl, (h.cell 10).trans rfl, (h.cell 11).trans rfl, (h.cell 12).trans rfl, (h.cell 13).trans rfl, (h.cell 14).trans rfl, (h.cell 15).trans rfl, (h.cell 16).trans rfl, h.frozen 0, h.frozen 1, h.frozen 2, h.frozen 3, h.frozen 4, h.frozen 5, h.frozen 6, h.frozen 7, h.frozen 8, h.frozen 9, h.frozen 10, h.frozen 11, h.frozen 12, h.frozen 13, h.frozen 14, h.frozen 15, h.frozen 16⟩
theorem there17 {w : World} {g : Nat} {t : TypeId} {d0 d1 d2 d3 d4 d5 d6 d7 d8 d9 d10 d11 d12 d13 d14 d15 d16 : Value} (h : Blk w g t #[d0, d1, d2, d3, d4, d5, d6, d7, d8, d9, d10, d11, d12, d13, d14, d15, d16]) : w.there g 0 17 := fun j hj => by
  rw [Nat.zero_add]
  refine ⟨?_, h.frozen j⟩
  rw [h.cell j, Array.getElem?_eq_getElem (by simpa using hj)]
  rfl
theorem only_end {wr wd : World} {R : Nat} {si sj sm : Int} {ka : Int} {na : Bool} {aa : Option Addr} {ma ca : Nat} {ba : Int} {xa : ByteArray} {kb : Int} {nb : Bool} {ab : Option Addr} {mb cb : Nat} {bb : Int} {xb : ByteArray} (hR : wr.heap.size ≤ R) (hb : Below wr.heap.size wr wd) (hk : Blk wd R 35 #[.int .i64 0, .int .i64 0, .int .i64 0, .int .i64 0, .int .i64 0, .bool false, .slice none 0 0, .int .u64 0, .string ⟨#[]⟩, .slice none 0 0, .int .i64 0, .bool false, .slice none 0 0, .int .u64 0, .string ⟨#[]⟩, .slice none 0 0, .slice none 0 0]) :
    OnlyR wr (putAll wd R [.int .i64 4, .int .i64 si, .int .i64 sj, .int .i64 sm, .int .i64 ka, .bool na, .slice aa ma ca, .int .u64 ba, .string xa, .slice none 0 0, .int .i64 kb, .bool nb, .slice ab mb cb, .int .u64 bb, .string xb, .slice none 0 0, .slice none 0 0]) si sj sm (.pointer (some ⟨R, 0, none⟩)) :=
  ⟨R, ka, na, aa, ma, ca, ba, xa, kb, nb, ab, mb, cb, bb, xb, rfl, hR, hk.putAll _ rfl, below_putAll hb hR _⟩
theorem scal_at (p : Addr) (w : World) (h : ValAt w p) : ∃ (k : Int) (neg : Bool) (a : Option Addr) (m c : Nat) (b : Nat) (tx : ByteArray) (ka : Option Addr) (kn kc : Nat),
    (w.cell? p = some (.int .i64 k) ∧ w.cell? (p.add 1) = some (.bool neg) ∧ w.cell? (p.add 2) = some (.slice a m c) ∧ w.cell? (p.add 3) = some (.int .u64 (b : Int)) ∧ w.cell? (p.add 4) = some (.string tx) ∧ w.cell? (p.add 5) = some (.slice ka kn kc)) ∧
    ∀ W, Below w.heap.size w W → Calls Tryz.prog 16 #[.agg #[.int .i64 k, .bool neg, .slice a m c, .int .u64 (b : Int), .string tx, .slice ka kn kc]] W
      (fun e W' => ∃ (k : Int) (n : Bool) (a : Option Addr) (m c : Nat) (b : Int) (x : ByteArray), e = .returned (.agg #[.int .i64 k, .bool n, .slice a m c, .int .u64 b, .string x, .slice none 0 0]) ∧ Below w.heap.size w W' ∧ Below W.heap.size W W') := by
  obtain ⟨k, neg, a, m, c, b, tx, ka, kn, kc, l, hc, ⟨hb, hl⟩, ht, _, _⟩ := h
  refine ⟨k, neg, a, m, c, b, tx, ka, kn, kc, hc, fun W hW => ?_⟩
  refine (spec_scalar k neg a m c b tx ka kn kc l W (hb.old hW) hl ht).mono ?_
  rintro e W' ⟨v, s, rfl, hx, hb2⟩
  obtain ⟨n1, a1, m1, c1, b1, x1, rfl⟩ := hx.form
  exact ⟨_, _, _, _, _, _, _, rfl, hW.trans (hb2.mono hW.size), hb2⟩
theorem st_ok (kq si sj sm : Int) (ka : Int) (na : Bool) (aa : Option Addr) (ma ca : Nat) (ba : Int) (xa : ByteArray) (kb : Int) (nb : Bool) (ab : Option Addr) (mb cb : Nat) (bb : Int) (xb : ByteArray) : (⟨kq, si, sj, sm, [.int .i64 ka, .bool na, .slice aa ma ca, .int .u64 ba, .string xa, .slice none 0 0, .int .i64 kb, .bool nb, .slice ab mb cb, .int .u64 bb, .string xb, .slice none 0 0, .slice none 0 0]⟩ : St).ok := by
  refine ⟨rfl, fun u hu => ?_⟩
  simp at hu
  rcases hu with rfl | rfl | rfl | rfl | rfl | rfl | rfl | rfl | rfl | rfl | rfl | rfl | rfl <;> rfl
def OnlyPost (w : World) (e : Ending) (w' : World) : Prop := ∃ v ss, e = .returned v ∧ RowSt w' w.heap.size v ss ∧ ss.length ≤ 60 ∧ (∀ s ∈ ss, s.k = 4 ∨ s.k ∈ [2, 27, 11, 5, 6, 7]) ∧ Below w.heap.size w w'
set_option maxRecDepth 100000 in
set_option maxHeartbeats 8000000 in
theorem spec_only (a : Option Addr) (len cap KB : Nat) (w : World) (hl : StepsIn w a len cap) (hkb : KB < w.heap.size) (hk : ∀ j : Nat, j < 6 → ∃ z, z ∈ ([2, 27, 11, 5, 6, 7] : List Int) ∧ w.cell? ⟨KB, j, none⟩ = some (.int .i64 z)) :
    Calls Tryz.prog 6 #[.slice a len cap, .slice (some ⟨KB, 0, none⟩) 6 6, .bool false] w (OnlyPost w) := by
  have HL := Lib.hid hl
  have HKB := Lib.hid hkb
  have HK := Lib.hid hk
  clear hl hkb hk
  go_enter Tryz.func6, Tryz.ntmps6
  go_wp2_with fail
  go_loopg [7, 8] 60 (fun k ov iv wr => ∃ (i : Nat) (ss : List St), iv = .int .i64 (i : Int) ∧ i ≤ len ∧ k + i = 60 ∧ Hid (ss.length = i ∧ RowSt wr w.heap.size ov ss) ∧ Hid (∀ s ∈ ss, s.k = 4 ∨ s.k ∈ [2, 27, 11, 5, 6, 7]) ∧ Hid (Below w.heap.size w wr))
  case atStart => exact ⟨0, [], rfl, Nat.zero_le _, rfl, ⟨rfl, RowSt.nil _ _⟩, fun s hs => by simp at hs, Below.refl _ _⟩
  case round =>
    obtain ⟨i, ss, rfl, hil, hk, hrow, hks, hb⟩ := hrel
    have HKI := Lib.hid hk
    clear hk
    by_cases hin : i < len ∧ i < 60
    · obtain ⟨h1, h2⟩ := hin
      have d1 : decide ((i : Int) < (len : Int)) = true := by simp; omega
      have d2 : decide ((i : Int) < 60) = true := by simp; omega
      rcases HL.out with ⟨_, h0, _⟩ | ⟨x, hx, hlc, hcm, hv⟩
      · omega
      · subst hx
        have hst := (hv i h1).below hb.out
        obtain ⟨kk, si, sj, sm, t0, t1, t2, t3, hA, hB⟩ := hst
        obtain ⟨kA, nA, aA, mA, cA, bA, xA, qA, rA, sA, ⟨u4, u5, u6, u7, u8, u9⟩, hcA⟩ := scal_at _ _ hA
        obtain ⟨kB, nB, aB, mB, cB, bB, xB, qB, rB, sB, ⟨u10, u11, u12, u13, u14, u15⟩, hcB⟩ := scal_at _ _ hB
        have hxl : (x.add (i * 17)).block < wr.heap.size := World.block_lt_of_cell? wr _ t0
        have HT0 := Lib.hid t0
        have HCX : Hid (∀ W, Below wr.heap.size wr W → (W.cell? ⟨(x.add (i * 17)).block, (x.add (i * 17)).off + 1, none⟩ = some (.int .i64 si) ∧ W.cell? ⟨(x.add (i * 17)).block, (x.add (i * 17)).off + 2, none⟩ = some (.int .i64 sj) ∧ W.cell? ⟨(x.add (i * 17)).block, (x.add (i * 17)).off + 3, none⟩ = some (.int .i64 sm) ∧ W.cell? ⟨(x.add (i * 17)).block, (x.add (i * 17)).off + 4, none⟩ = some (.int .i64 kA) ∧ W.cell? ⟨(x.add (i * 17)).block, (x.add (i * 17)).off + 5, none⟩ = some (.bool nA) ∧ W.cell? ⟨(x.add (i * 17)).block, (x.add (i * 17)).off + 6, none⟩ = some (.slice aA mA cA) ∧ W.cell? ⟨(x.add (i * 17)).block, (x.add (i * 17)).off + 7, none⟩ = some (.int .u64 (bA : Int)) ∧ W.cell? ⟨(x.add (i * 17)).block, (x.add (i * 17)).off + 8, none⟩ = some (.string xA) ∧ W.cell? ⟨(x.add (i * 17)).block, (x.add (i * 17)).off + 9, none⟩ = some (.slice qA rA sA) ∧ W.cell? ⟨(x.add (i * 17)).block, (x.add (i * 17)).off + 10, none⟩ = some (.int .i64 kB) ∧ W.cell? ⟨(x.add (i * 17)).block, (x.add (i * 17)).off + 11, none⟩ = some (.bool nB) ∧ W.cell? ⟨(x.add (i * 17)).block, (x.add (i * 17)).off + 12, none⟩ = some (.slice aB mB cB) ∧ W.cell? ⟨(x.add (i * 17)).block, (x.add (i * 17)).off + 13, none⟩ = some (.int .u64 (bB : Int)) ∧ W.cell? ⟨(x.add (i * 17)).block, (x.add (i * 17)).off + 14, none⟩ = some (.string xB) ∧ W.cell? ⟨(x.add (i * 17)).block, (x.add (i * 17)).off + 15, none⟩ = some (.slice qB rB sB))) := fun W hW =>
          have k := fun (j : Nat) (v : Value) (h : wr.cell? ⟨(x.add (i * 17)).block, (x.add (i * 17)).off + j, none⟩ = some v) => (hW.cell (p := ⟨(x.add (i * 17)).block, (x.add (i * 17)).off + j, none⟩) hxl).trans h
          ⟨k 1 _ t1, k 2 _ t2, k 3 _ t3, k 4 _ u4, k 5 _ u5, k 6 _ u6, k 7 _ u7, k 8 _ u8, k 9 _ u9, k 10 _ u10, k 11 _ u11, k 12 _ u12, k 13 _ u13, k 14 _ u14, k 15 _ u15⟩
        have HCA := Lib.hid hcA
        have HCB := Lib.hid hcB
        have hi63 : (i : Int) < 9223372036854775807 := by omega
        clear hv hA hB hcA hcB hlc hcm t0 t1 t2 t3 u4 u5 u6 u7 u8 u9 u10 u11 u12 u13 u14 u15
        obtain ⟨e1, e2, e3, e4, e5, e6, e7, e8, e9, e10, e11, e12, e13, e14, e15⟩ := HCX.out wr (Below.refl _ _)
        have C0 := Lib.hid (Below.refl wr.heap.size wr).drew
        go_upto_region 5 with fail
        go_cut [9] from 21 to 48 (fun s9 wx => Hid (OnlyR wr wx si sj sm s9))
        case first =>
          refine wp_region_held_drew (S := fun W => Below wr.heap.size wr W) (by kernel_rfl) C0.out (fun hHeld => ?_)
          refine wpAnyH_take (i := 0) (v := ?_) rfl (by kernel_rfl) (by kernel_rfl) (by kernel_rfl) (fun _ _ _ h => h) (Or.inl ⟨by rfl, ?_⟩) (by assumption) ?_
          rotate_left
          · intro w9 hSw
            obtain ⟨e1, e2, e3, e4, e5, e6, e7, e8, e9, e10, e11, e12, e13, e14, e15⟩ := HCX.out w9 hSw
            go_simp
            (try with_reducible rfl)
          try simp only [Act.put, List.getElem_toArray, List.getElem_cons_zero, List.getElem_cons_succ, List.setIfInBounds_toArray, List.set_cons_zero, List.set_cons_succ]
          refine wpAnyH_take (i := 1) (v := ?_) rfl (by kernel_rfl) (by kernel_rfl) (by kernel_rfl) (fun _ _ _ h => h) (Or.inl ⟨by rfl, ?_⟩) (by assumption) ?_
          rotate_left
          · intro w9 hSw
            obtain ⟨e1, e2, e3, e4, e5, e6, e7, e8, e9, e10, e11, e12, e13, e14, e15⟩ := HCX.out w9 hSw
            go_simp
            (try with_reducible rfl)
          try simp only [Act.put, List.getElem_toArray, List.getElem_cons_zero, List.getElem_cons_succ, List.setIfInBounds_toArray, List.set_cons_zero, List.set_cons_succ]
          refine wpAnyH_take (i := 2) (v := ?_) rfl (by kernel_rfl) (by kernel_rfl) (by kernel_rfl) (fun _ _ _ h => h) (Or.inl ⟨by rfl, ?_⟩) (by assumption) ?_
          rotate_left
          · intro w9 hSw
            obtain ⟨e1, e2, e3, e4, e5, e6, e7, e8, e9, e10, e11, e12, e13, e14, e15⟩ := HCX.out w9 hSw
            go_simp
            (try with_reducible rfl)
          try simp only [Act.put, List.getElem_toArray, List.getElem_cons_zero, List.getElem_cons_succ, List.setIfInBounds_toArray, List.set_cons_zero, List.set_cons_succ]
          refine wpAnyH_take (i := 3) (v := ?_) rfl (by kernel_rfl) (by kernel_rfl) (by kernel_rfl) (fun _ _ _ h => h) (Or.inl ⟨by rfl, ?_⟩) (by assumption) ?_
          rotate_left
          · intro w9 hSw
            obtain ⟨e1, e2, e3, e4, e5, e6, e7, e8, e9, e10, e11, e12, e13, e14, e15⟩ := HCX.out w9 hSw
            go_simp
            (try with_reducible rfl)
          try simp only [Act.put, List.getElem_toArray, List.getElem_cons_zero, List.getElem_cons_succ, List.setIfInBounds_toArray, List.set_cons_zero, List.set_cons_succ]
          refine wpAnyH_take (i := 4) (v := ?_) rfl (by kernel_rfl) (by kernel_rfl) (by kernel_rfl) (fun _ _ _ h => h) (Or.inl ⟨by rfl, ?_⟩) (by assumption) ?_
          rotate_left
          · intro w9 hSw
            obtain ⟨e1, e2, e3, e4, e5, e6, e7, e8, e9, e10, e11, e12, e13, e14, e15⟩ := HCX.out w9 hSw
            go_simp
            (try with_reducible rfl)
          try simp only [Act.put, List.getElem_toArray, List.getElem_cons_zero, List.getElem_cons_succ, List.setIfInBounds_toArray, List.set_cons_zero, List.set_cons_succ]
          refine wpAnyH_take (i := 5) (v := ?_) rfl (by kernel_rfl) (by kernel_rfl) (by kernel_rfl) (fun _ _ _ h => h) (Or.inl ⟨by rfl, ?_⟩) (by assumption) ?_
          rotate_left
          · intro w9 hSw
            obtain ⟨e1, e2, e3, e4, e5, e6, e7, e8, e9, e10, e11, e12, e13, e14, e15⟩ := HCX.out w9 hSw
            go_simp
            (try with_reducible rfl)
          try simp only [Act.put, List.getElem_toArray, List.getElem_cons_zero, List.getElem_cons_succ, List.setIfInBounds_toArray, List.set_cons_zero, List.set_cons_succ]
          refine wpAnyH_take (i := 6) (v := ?_) rfl (by kernel_rfl) (by kernel_rfl) (by kernel_rfl) (fun _ _ _ h => h) (Or.inl ⟨by rfl, ?_⟩) (by assumption) ?_
          rotate_left
          · intro w9 hSw
            obtain ⟨e1, e2, e3, e4, e5, e6, e7, e8, e9, e10, e11, e12, e13, e14, e15⟩ := HCX.out w9 hSw
            go_simp
            (try with_reducible rfl)
          try simp only [Act.put, List.getElem_toArray, List.getElem_cons_zero, List.getElem_cons_succ, List.setIfInBounds_toArray, List.set_cons_zero, List.set_cons_succ]
          refine wpAnyH_take (i := 7) (v := ?_) rfl (by kernel_rfl) (by kernel_rfl) (by kernel_rfl) (fun _ _ _ h => h) (Or.inl ⟨by rfl, ?_⟩) (by assumption) ?_
          rotate_left
          · intro w9 hSw
            obtain ⟨e1, e2, e3, e4, e5, e6, e7, e8, e9, e10, e11, e12, e13, e14, e15⟩ := HCX.out w9 hSw
            go_simp
            (try with_reducible rfl)
          try simp only [Act.put, List.getElem_toArray, List.getElem_cons_zero, List.getElem_cons_succ, List.setIfInBounds_toArray, List.set_cons_zero, List.set_cons_succ]
          refine wpAnyH_take (i := 8) (v := ?_) rfl (by kernel_rfl) (by kernel_rfl) (by kernel_rfl) (fun _ _ _ h => h) (Or.inl ⟨by rfl, ?_⟩) (by assumption) ?_
          rotate_left
          · intro w9 hSw
            obtain ⟨e1, e2, e3, e4, e5, e6, e7, e8, e9, e10, e11, e12, e13, e14, e15⟩ := HCX.out w9 hSw
            go_simp
            (try with_reducible rfl)
          try simp only [Act.put, List.getElem_toArray, List.getElem_cons_zero, List.getElem_cons_succ, List.setIfInBounds_toArray, List.set_cons_zero, List.set_cons_succ]
          refine wpAnyH_take (i := 9) (v := ?_) rfl (by kernel_rfl) (by kernel_rfl) (by kernel_rfl) (fun _ _ _ h => h) (Or.inl ⟨by rfl, ?_⟩) (by assumption) ?_
          rotate_left
          · intro w9 hSw
            obtain ⟨e1, e2, e3, e4, e5, e6, e7, e8, e9, e10, e11, e12, e13, e14, e15⟩ := HCX.out w9 hSw
            go_simp
            (try with_reducible rfl)
          try simp only [Act.put, List.getElem_toArray, List.getElem_cons_zero, List.getElem_cons_succ, List.setIfInBounds_toArray, List.set_cons_zero, List.set_cons_succ]
          refine wpAnyH_take (i := 10) (v := ?_) rfl (by kernel_rfl) (by kernel_rfl) (by kernel_rfl) (fun _ _ _ h => h) (Or.inl ⟨by rfl, ?_⟩) (by assumption) ?_
          rotate_left
          · intro w9 hSw
            obtain ⟨e1, e2, e3, e4, e5, e6, e7, e8, e9, e10, e11, e12, e13, e14, e15⟩ := HCX.out w9 hSw
            go_simp
            (try with_reducible rfl)
          try simp only [Act.put, List.getElem_toArray, List.getElem_cons_zero, List.getElem_cons_succ, List.setIfInBounds_toArray, List.set_cons_zero, List.set_cons_succ]
          refine wpAnyH_take (i := 11) (v := ?_) rfl (by kernel_rfl) (by kernel_rfl) (by kernel_rfl) (fun _ _ _ h => h) (Or.inl ⟨by rfl, ?_⟩) (by assumption) ?_
          rotate_left
          · intro w9 hSw
            obtain ⟨e1, e2, e3, e4, e5, e6, e7, e8, e9, e10, e11, e12, e13, e14, e15⟩ := HCX.out w9 hSw
            go_simp
            (try with_reducible rfl)
          try simp only [Act.put, List.getElem_toArray, List.getElem_cons_zero, List.getElem_cons_succ, List.setIfInBounds_toArray, List.set_cons_zero, List.set_cons_succ]
          refine wpAnyH_take (i := 12) (v := ?_) rfl (by kernel_rfl) (by kernel_rfl) (by kernel_rfl) (fun _ _ _ h => h) (Or.inl ⟨by rfl, ?_⟩) (by assumption) ?_
          rotate_left
          · intro w9 hSw
            obtain ⟨e1, e2, e3, e4, e5, e6, e7, e8, e9, e10, e11, e12, e13, e14, e15⟩ := HCX.out w9 hSw
            go_simp
            (try with_reducible rfl)
          try simp only [Act.put, List.getElem_toArray, List.getElem_cons_zero, List.getElem_cons_succ, List.setIfInBounds_toArray, List.set_cons_zero, List.set_cons_succ]
          refine wpAnyH_take (i := 13) (v := ?_) rfl (by kernel_rfl) (by kernel_rfl) (by kernel_rfl) (fun _ _ _ h => h) (Or.inl ⟨by rfl, ?_⟩) (by assumption) ?_
          rotate_left
          · intro w9 hSw
            obtain ⟨e1, e2, e3, e4, e5, e6, e7, e8, e9, e10, e11, e12, e13, e14, e15⟩ := HCX.out w9 hSw
            go_simp
            (try with_reducible rfl)
          try simp only [Act.put, List.getElem_toArray, List.getElem_cons_zero, List.getElem_cons_succ, List.setIfInBounds_toArray, List.set_cons_zero, List.set_cons_succ]
          refine wpAnyH_take (i := 14) (v := ?_) rfl (by kernel_rfl) (by kernel_rfl) (by kernel_rfl) (fun _ _ _ h => h) (Or.inl ⟨by rfl, ?_⟩) (by assumption) ?_
          rotate_left
          · intro w9 hSw
            obtain ⟨e1, e2, e3, e4, e5, e6, e7, e8, e9, e10, e11, e12, e13, e14, e15⟩ := HCX.out w9 hSw
            go_simp
            (try with_reducible rfl)
          try simp only [Act.put, List.getElem_toArray, List.getElem_cons_zero, List.getElem_cons_succ, List.setIfInBounds_toArray, List.set_cons_zero, List.set_cons_succ]
          refine wpAnyH_take (i := 15) (v := ?_) rfl (by kernel_rfl) (by kernel_rfl) (by kernel_rfl) (fun _ _ _ h => h) (Or.inl ⟨by rfl, ?_⟩) (by assumption) ?_
          rotate_left
          · intro w9 hSw
            obtain ⟨e1, e2, e3, e4, e5, e6, e7, e8, e9, e10, e11, e12, e13, e14, e15⟩ := HCX.out w9 hSw
            go_simp
            (try with_reducible rfl)
          try simp only [Act.put, List.getElem_toArray, List.getElem_cons_zero, List.getElem_cons_succ, List.setIfInBounds_toArray, List.set_cons_zero, List.set_cons_succ]
          refine wpAnyH_take (i := 16) (v := ?_) rfl (by kernel_rfl) (by kernel_rfl) (by kernel_rfl) (fun _ _ _ h => h) (Or.inl ⟨by rfl, ?_⟩) (by assumption) ?_
          rotate_left
          · intro w9 hSw
            obtain ⟨e1, e2, e3, e4, e5, e6, e7, e8, e9, e10, e11, e12, e13, e14, e15⟩ := HCX.out w9 hSw
            go_simp
            (try with_reducible rfl)
          try simp only [Act.put, List.getElem_toArray, List.getElem_cons_zero, List.getElem_cons_succ, List.setIfInBounds_toArray, List.set_cons_zero, List.set_cons_succ]
          refine wpAnyH_take (i := 17) (v := ?_) rfl (by kernel_rfl) (by kernel_rfl) (by kernel_rfl) (fun _ _ _ h => h) (Or.inl ⟨by rfl, ?_⟩) (by assumption) ?_
          rotate_left
          · intro w9 hSw
            obtain ⟨e1, e2, e3, e4, e5, e6, e7, e8, e9, e10, e11, e12, e13, e14, e15⟩ := HCX.out w9 hSw
            go_simp
            (try with_reducible rfl)
          try simp only [Act.put, List.getElem_toArray, List.getElem_cons_zero, List.getElem_cons_succ, List.setIfInBounds_toArray, List.set_cons_zero, List.set_cons_succ]
          refine wpAnyH_take (i := 18) (v := ?_) rfl (by kernel_rfl) (by kernel_rfl) (by kernel_rfl) (fun _ _ _ h => h) (Or.inl ⟨by rfl, ?_⟩) (by assumption) ?_
          rotate_left
          · intro w9 hSw
            obtain ⟨e1, e2, e3, e4, e5, e6, e7, e8, e9, e10, e11, e12, e13, e14, e15⟩ := HCX.out w9 hSw
            go_simp
            (try with_reducible rfl)
          try simp only [Act.put, List.getElem_toArray, List.getElem_cons_zero, List.getElem_cons_succ, List.setIfInBounds_toArray, List.set_cons_zero, List.set_cons_succ]
          refine wpAnyH_take (i := 19) (v := ?_) rfl (by kernel_rfl) (by kernel_rfl) (by kernel_rfl) (fun _ _ _ h => h) (Or.inl ⟨by rfl, ?_⟩) (by assumption) ?_
          rotate_left
          · intro w9 hSw
            obtain ⟨e1, e2, e3, e4, e5, e6, e7, e8, e9, e10, e11, e12, e13, e14, e15⟩ := HCX.out w9 hSw
            go_simp
            (try with_reducible rfl)
          try simp only [Act.put, List.getElem_toArray, List.getElem_cons_zero, List.getElem_cons_succ, List.setIfInBounds_toArray, List.set_cons_zero, List.set_cons_succ]
          refine wpAnyH_take (i := 21) (v := ?_) rfl (by kernel_rfl) (by kernel_rfl) (by kernel_rfl) (fun _ _ _ h => h) (Or.inl ⟨by rfl, ?_⟩) (by assumption) ?_
          rotate_left
          · intro w9 hSw
            obtain ⟨e1, e2, e3, e4, e5, e6, e7, e8, e9, e10, e11, e12, e13, e14, e15⟩ := HCX.out w9 hSw
            go_simp
            (try with_reducible rfl)
          try simp only [Act.put, List.getElem_toArray, List.getElem_cons_zero, List.getElem_cons_succ, List.setIfInBounds_toArray, List.set_cons_zero, List.set_cons_succ]
          refine wpAnyH_take (i := 22) (v := ?_) rfl (by kernel_rfl) (by kernel_rfl) (by kernel_rfl) (fun _ _ _ h => h) (Or.inl ⟨by rfl, ?_⟩) (by assumption) ?_
          rotate_left
          · intro w9 hSw
            obtain ⟨e1, e2, e3, e4, e5, e6, e7, e8, e9, e10, e11, e12, e13, e14, e15⟩ := HCX.out w9 hSw
            go_simp
            (try with_reducible rfl)
          try simp only [Act.put, List.getElem_toArray, List.getElem_cons_zero, List.getElem_cons_succ, List.setIfInBounds_toArray, List.set_cons_zero, List.set_cons_succ]
          refine wpAnyH_take (i := 23) (v := ?_) rfl (by kernel_rfl) (by kernel_rfl) (by kernel_rfl) (fun _ _ _ h => h) (Or.inl ⟨by rfl, ?_⟩) (by assumption) ?_
          rotate_left
          · intro w9 hSw
            obtain ⟨e1, e2, e3, e4, e5, e6, e7, e8, e9, e10, e11, e12, e13, e14, e15⟩ := HCX.out w9 hSw
            go_simp
            (try with_reducible rfl)
          try simp only [Act.put, List.getElem_toArray, List.getElem_cons_zero, List.getElem_cons_succ, List.setIfInBounds_toArray, List.set_cons_zero, List.set_cons_succ]
          refine wpAnyH_take (i := 24) (v := ?_) rfl (by kernel_rfl) (by kernel_rfl) (by kernel_rfl) (fun _ _ _ h => h) (Or.inl ⟨by rfl, ?_⟩) (by assumption) ?_
          rotate_left
          · intro w9 hSw
            obtain ⟨e1, e2, e3, e4, e5, e6, e7, e8, e9, e10, e11, e12, e13, e14, e15⟩ := HCX.out w9 hSw
            go_simp
            (try with_reducible rfl)
          try simp only [Act.put, List.getElem_toArray, List.getElem_cons_zero, List.getElem_cons_succ, List.setIfInBounds_toArray, List.set_cons_zero, List.set_cons_succ]
          refine wpAnyH_take (i := 25) (v := ?_) rfl (by kernel_rfl) (by kernel_rfl) (by kernel_rfl) (fun _ _ _ h => h) (Or.inl ⟨by rfl, ?_⟩) (by assumption) ?_
          rotate_left
          · intro w9 hSw
            obtain ⟨e1, e2, e3, e4, e5, e6, e7, e8, e9, e10, e11, e12, e13, e14, e15⟩ := HCX.out w9 hSw
            go_simp
            (try with_reducible rfl)
          try simp only [Act.put, List.getElem_toArray, List.getElem_cons_zero, List.getElem_cons_succ, List.setIfInBounds_toArray, List.set_cons_zero, List.set_cons_succ]
          refine wpAnyH_ready (rs := [20, 28]) (by kernel_rfl) (by simp) ?_
          refine AllReadyH.cons rfl (fun K hK => ?_) (AllReadyH.cons rfl (fun K hK => ?_) AllReadyH.nil)
          · go_simp
            refine (HCA.out _ ?_).mono ?_
            · exact C0.out
            rintro e wa ⟨ka, na, aa, ma, ca, ba, xa, rfl, hb1, hb2⟩
            have CA := Lib.hid hb1
            clear hb1 hb2
            go_wp2_with fail
            refine hK.out _ _ (CA.out) (fun hHeld => ?_)
            clear hK K
            try simp only [Act.put, List.getElem_toArray, List.getElem_cons_zero, List.getElem_cons_succ, List.setIfInBounds_toArray, List.set_cons_zero, List.set_cons_succ]
            refine wpAnyH_ready (rs := [26, 28]) (by kernel_rfl) (by simp) ?_
            refine AllReadyH.cons rfl (fun K hK => ?_) (AllReadyH.cons rfl (fun K hK => ?_) AllReadyH.nil)
            · go_simp
              refine (HCB.out _ ?_).mono ?_
              · exact CA.out
              rintro e wb ⟨kb, nb, ab, mb, cb, bb, xb, rfl, hb1, hb2⟩
              have CB := Lib.hid hb1
              clear hb1 hb2
              go_wp2_with fail
              refine hK.out _ _ (CB.out) (fun hHeld => ?_)
              clear hK K
              try simp only [Act.put, List.getElem_toArray, List.getElem_cons_zero, List.getElem_cons_succ, List.setIfInBounds_toArray, List.set_cons_zero, List.set_cons_succ]
              refine wpAnyH_take (i := 27) (v := ?_) rfl (by kernel_rfl) (by kernel_rfl) (by kernel_rfl) (fun _ _ _ h => h) (Or.inl ⟨by rfl, ?_⟩) (by assumption) ?_
              rotate_left
              · intro w9 hSw
                obtain ⟨e1, e2, e3, e4, e5, e6, e7, e8, e9, e10, e11, e12, e13, e14, e15⟩ := HCX.out w9 hSw
                go_simp
                (try with_reducible rfl)
              try simp only [Act.put, List.getElem_toArray, List.getElem_cons_zero, List.getElem_cons_succ, List.setIfInBounds_toArray, List.set_cons_zero, List.set_cons_succ]
              refine wpAnyH_ready (rs := [28]) (by kernel_rfl) (by simp) ?_
              refine AllReadyH.cons rfl (fun K hK => ?_) AllReadyH.nil
              go_simp
              refine hK.out _ _ (CB.out.alloc CB.out.size _) (fun hHeld => ?_)
              clear hK K
              try simp only [Act.put, List.getElem_toArray, List.getElem_cons_zero, List.getElem_cons_succ, List.setIfInBounds_toArray, List.set_cons_zero, List.set_cons_succ]
              refine wpAnyH_ready (rs := [29]) (by kernel_rfl) (by simp) ?_
              refine AllReadyH.cons rfl (fun K hK => ?_) AllReadyH.nil
              go_simp
              refine hK.out _ _ (CB.out.alloc CB.out.size _) (fun hHeld => ?_)
              clear hK K
              try simp only [Act.put, List.getElem_toArray, List.getElem_cons_zero, List.getElem_cons_succ, List.setIfInBounds_toArray, List.set_cons_zero, List.set_cons_succ]
              refine wpAnyH_done (by kernel_rfl) ?_ _
              go_step
              go_step
              go_meet
              exact Lib.hid ⟨_, ka, na, aa, ma, ca, ba, xa, kb, nb, ab, mb, cb, bb, xb, rfl, CB.out.size, Blk.new _ _ _, CB.out.alloc CB.out.size _⟩
            · go_simp
              refine hK.out _ _ (CA.out.alloc CA.out.size _) (fun hHeld => ?_)
              clear hK K
              try simp only [Act.put, List.getElem_toArray, List.getElem_cons_zero, List.getElem_cons_succ, List.setIfInBounds_toArray, List.set_cons_zero, List.set_cons_succ]
              refine wpAnyH_ready (rs := [26]) (by kernel_rfl) (by simp) ?_
              refine AllReadyH.cons rfl (fun K hK => ?_) AllReadyH.nil
              go_simp
              refine (HCB.out _ ?_).mono ?_
              · exact CA.out.alloc CA.out.size _
              rintro e wb ⟨kb, nb, ab, mb, cb, bb, xb, rfl, hb1, hb2⟩
              have CB := Lib.hid hb1
              have HZ : Hid (Blk wb wa.heap.size 35 #[.int .i64 0, .int .i64 0, .int .i64 0, .int .i64 0, .int .i64 0, .bool false, .slice none 0 0, .int .u64 0, .string ⟨#[]⟩, .slice none 0 0, .int .i64 0, .bool false, .slice none 0 0, .int .u64 0, .string ⟨#[]⟩, .slice none 0 0, .slice none 0 0]) := (Blk.new wa _ _).below hb2 (by simp)
              clear hb1 hb2
              go_wp2_with fail
              refine hK.out _ _ (CB.out) (fun hHeld => ?_)
              clear hK K
              try simp only [Act.put, List.getElem_toArray, List.getElem_cons_zero, List.getElem_cons_succ, List.setIfInBounds_toArray, List.set_cons_zero, List.set_cons_succ]
              refine wpAnyH_take (i := 27) (v := ?_) rfl (by kernel_rfl) (by kernel_rfl) (by kernel_rfl) (fun _ _ _ h => h) (Or.inl ⟨by rfl, ?_⟩) (by assumption) ?_
              rotate_left
              · intro w9 hSw
                obtain ⟨e1, e2, e3, e4, e5, e6, e7, e8, e9, e10, e11, e12, e13, e14, e15⟩ := HCX.out w9 hSw
                go_simp
                (try with_reducible rfl)
              try simp only [Act.put, List.getElem_toArray, List.getElem_cons_zero, List.getElem_cons_succ, List.setIfInBounds_toArray, List.set_cons_zero, List.set_cons_succ]
              refine wpAnyH_ready (rs := [29]) (by kernel_rfl) (by simp) ?_
              refine AllReadyH.cons rfl (fun K hK => ?_) AllReadyH.nil
              rw [if_pos (by rfl)]
              refine wp_store_mid _ _ _ rfl _ _ _ rfl rfl (there17 HZ.out) (by kernel_rfl) (by kernel_rfl) ?_
              refine hK.out _ _ (below_putAll CB.out CA.out.size _) (fun hHeld => ?_)
              clear hK K
              try simp only [Act.put, List.getElem_toArray, List.getElem_cons_zero, List.getElem_cons_succ, List.setIfInBounds_toArray, List.set_cons_zero, List.set_cons_succ]
              refine wpAnyH_done (by kernel_rfl) ?_ _
              go_step
              go_step
              go_meet
              exact Lib.hid (only_end CA.out.size CB.out HZ.out)
          · go_simp
            refine hK.out _ _ (((Below.refl wr.heap.size wr).alloc (Nat.le_refl _) _).drew) (fun hHeld => ?_)
            clear hK K
            try simp only [Act.put, List.getElem_toArray, List.getElem_cons_zero, List.getElem_cons_succ, List.setIfInBounds_toArray, List.set_cons_zero, List.set_cons_succ]
            refine wpAnyH_ready (rs := [20]) (by kernel_rfl) (by simp) ?_
            refine AllReadyH.cons rfl (fun K hK => ?_) AllReadyH.nil
            go_simp
            refine (HCA.out _ ?_).mono ?_
            · exact ((Below.refl wr.heap.size wr).alloc (Nat.le_refl _) _).drew
            rintro e wa ⟨ka, na, aa, ma, ca, ba, xa, rfl, hb1, hb2⟩
            have CA := Lib.hid hb1
            have HZ0 : Hid (Blk wa wr.heap.size 35 #[.int .i64 0, .int .i64 0, .int .i64 0, .int .i64 0, .int .i64 0, .bool false, .slice none 0 0, .int .u64 0, .string ⟨#[]⟩, .slice none 0 0, .int .i64 0, .bool false, .slice none 0 0, .int .u64 0, .string ⟨#[]⟩, .slice none 0 0, .slice none 0 0]) := ((Blk.new wr _ _).drew).below hb2 (by simp)
            clear hb1 hb2
            go_wp2_with fail
            refine hK.out _ _ (CA.out) (fun hHeld => ?_)
            clear hK K
            try simp only [Act.put, List.getElem_toArray, List.getElem_cons_zero, List.getElem_cons_succ, List.setIfInBounds_toArray, List.set_cons_zero, List.set_cons_succ]
            refine wpAnyH_ready (rs := [26]) (by kernel_rfl) (by simp) ?_
            refine AllReadyH.cons rfl (fun K hK => ?_) AllReadyH.nil
            go_simp
            refine (HCB.out _ ?_).mono ?_
            · exact CA.out
            rintro e wb ⟨kb, nb, ab, mb, cb, bb, xb, rfl, hb1, hb2⟩
            have CB := Lib.hid hb1
            have HZ : Hid (Blk wb wr.heap.size 35 #[.int .i64 0, .int .i64 0, .int .i64 0, .int .i64 0, .int .i64 0, .bool false, .slice none 0 0, .int .u64 0, .string ⟨#[]⟩, .slice none 0 0, .int .i64 0, .bool false, .slice none 0 0, .int .u64 0, .string ⟨#[]⟩, .slice none 0 0, .slice none 0 0]) := HZ0.out.below hb2 HZ0.out.lt
            clear hb1 hb2
            go_wp2_with fail
            refine hK.out _ _ (CB.out) (fun hHeld => ?_)
            clear hK K
            try simp only [Act.put, List.getElem_toArray, List.getElem_cons_zero, List.getElem_cons_succ, List.setIfInBounds_toArray, List.set_cons_zero, List.set_cons_succ]
            refine wpAnyH_take (i := 27) (v := ?_) rfl (by kernel_rfl) (by kernel_rfl) (by kernel_rfl) (fun _ _ _ h => h) (Or.inl ⟨by rfl, ?_⟩) (by assumption) ?_
            rotate_left
            · intro w9 hSw
              obtain ⟨e1, e2, e3, e4, e5, e6, e7, e8, e9, e10, e11, e12, e13, e14, e15⟩ := HCX.out w9 hSw
              go_simp
              (try with_reducible rfl)
            try simp only [Act.put, List.getElem_toArray, List.getElem_cons_zero, List.getElem_cons_succ, List.setIfInBounds_toArray, List.set_cons_zero, List.set_cons_succ]
            refine wpAnyH_ready (rs := [29]) (by kernel_rfl) (by simp) ?_
            refine AllReadyH.cons rfl (fun K hK => ?_) AllReadyH.nil
            rw [if_pos (by rfl)]
            refine wp_store_mid _ _ _ rfl _ _ _ rfl rfl (there17 HZ.out) (by kernel_rfl) (by kernel_rfl) ?_
            refine hK.out _ _ (below_putAll CB.out (Nat.le_refl _) _) (fun hHeld => ?_)
            clear hK K
            try simp only [Act.put, List.getElem_toArray, List.getElem_cons_zero, List.getElem_cons_succ, List.setIfInBounds_toArray, List.set_cons_zero, List.set_cons_succ]
            refine wpAnyH_done (by kernel_rfl) ?_ _
            go_step
            go_step
            go_meet
            exact Lib.hid (only_end (Nat.le_refl _) CB.out HZ.out)
        case rest =>
          obtain ⟨R, ka, na, aa, ma, ca, ba, xa, kb, nb, ab, mb, cb, bb, xb, rfl, hR, hbk, hbw⟩ := hcut.out
          have HR := Lib.hid hR
          have HBK := Lib.hid hbk
          have HBW := Lib.hid hbw
          have HXL := Lib.hid hxl
          clear hcut hR hbk hbw HCX HCA HCB C0 e1 e2 e3 e4 e5 e6 e7 e8 e9 e10 e11 e12 e13 e14 e15 hxl
          obtain ⟨wo, hwo⟩ : ∃ wo, wo = wr := ⟨_, rfl⟩
          subst hwo
          go_wp2_with fail
          go_loopw [10] (fun jv wy => ∃ (j : Nat) (kq : Int), jv = .int .i64 (j : Int) ∧ j ≤ 6 ∧ Hid (kq = 4 ∨ kq ∈ ([2, 27, 11, 5, 6, 7] : List Int)) ∧ Hid (Blk wy R 35 #[.int .i64 kq, .int .i64 si, .int .i64 sj, .int .i64 sm, .int .i64 ka, .bool na, .slice aa ma ca, .int .u64 ba, .string xa, .slice none 0 0, .int .i64 kb, .bool nb, .slice ab mb cb, .int .u64 bb, .string xb, .slice none 0 0, .slice none 0 0]) ∧ Hid (Below wo.heap.size wo wy)) (fun jv _ => 6 - (intOf jv).toNat)
          case atStart => exact ⟨0, 4, rfl, by omega, .inl rfl, HBK.out, HBW.out⟩
          case round =>
            obtain ⟨j, kq, rfl, hj6, hkq, hbk, hbw⟩ := hrel
            by_cases hj : j < 6
            · have d3 : decide ((j : Int) < 6) = true := by simp; omega
              obtain ⟨z, hz, hzc⟩ := HK.out j hj
              have hzw := (hb.out.cell (p := ⟨KB, j, none⟩) HKB.out).trans hzc
              have hkl : KB < wo.heap.size := Nat.lt_of_lt_of_le HKB.out hb.out.size
              have e0 := (hbw.out.cell (p := ⟨KB, j, none⟩) hkl).trans hzw
              have hxw := (hbw.out.cell (p := x.add (i * 17)) HXL.out).trans HT0.out
              have z0 := (hbk.out.cell 0).trans rfl
              have y0 := hbk.out.frozen 0
              have hj0 : (0 : Int) ≤ (j : Int) := by omega
              have hj1 : (j : Int) < 6 := by omega
              have hi0 : (0 : Int) ≤ (i : Int) := by omega
              have hi1 : (i : Int) < (len : Int) := by omega
              have HZM := Lib.hid hz
              have HKQ := Lib.hid hkq.out
              have HBKQ := Lib.hid hbk.out
              have HBWQ := Lib.hid hbw.out
              have d4 : decide ((j : Int) < 6) = true := d3
              clear hz hkq hbk hbw hzw hzc hkl
              by_cases hzk : z = kk
              · subst hzk
                as_aux_lemma =>
                go_wp2_with fail
                go_quiet (fail)
                go_wp2_with fail
                go_roundw
                case rel => exact ⟨j + 1, z, by go_num, by omega, .inr HZM.out, ((Blk.put HBKQ.out 0 _)), ((below_dn HBWQ.out _).setCell (p := ⟨R, 0, none⟩) HR.out _)⟩
                case measure => simp [intOf]; omega
              · have hzk1 : (z == kk) = false := by simp; exact hzk
                as_aux_lemma =>
                go_wp2_with fail
                go_quiet (fail)
                go_wp2_with fail
                go_roundw
                case rel => exact ⟨j + 1, kq, by go_num, by omega, HKQ.out, HBKQ.out, below_dn HBWQ.out _⟩
                case measure => simp [intOf]; omega
            · obtain rfl : j = 6 := by omega
              obtain ⟨z0, z1, z2, z3, z4, z5, z6, z7, z8, z9, z10, z11, z12, z13, z14, z15, z16, y0, y1, y2, y3, y4, y5, y6, y7, y8, y9, y10, y11, y12, y13, y14, y15, y16⟩ := blk17 hbk.out
              have HKQ := Lib.hid hkq.out
              have HBW2 := Lib.hid (hb.out.trans (hbw.out.mono hb.out.size))
              have HRW := Lib.hid (hrow.out.2.below hbw.out)
              have HSL := Lib.hid hrow.out.1
              have HKS := Lib.hid hks.out
              have hq1000 : ss.length ≤ 1000 := by have := HSL.out; omega
              clear y0 y1 y2 y3 y4 y5 y6 y7 y8 y9 y10 y11 y12 y13 y14 y15 y16 hbk hkq hbw hrow hks hb
              go_wp2_with (at_builtin; refine wpList_append_st rfl (.tmp 79) (.tmp 81) rfl wr w.heap.size _ ss HRW.out rfl ⟨kq, si, sj, sm, [.int .i64 ka, .bool na, .slice aa ma ca, .int .u64 ba, .string xa, .slice none 0 0, .int .i64 kb, .bool nb, .slice ab mb cb, .int .u64 bb, .string xb, .slice none 0 0, .slice none 0 0]⟩ (st_ok _ _ _ _ _ _ _ _ _ _ _ _ _ _ _ _ _ _) _ rfl rfl rfl hq1000 HBW2.out.size ?_; intro v6 w6 hr6 hb6 hgr6; have HR6 := Lib.hid hr6; have HB6 := Lib.hid hb6; clear hr6 hb6 hgr6)
              go_roundg (60 - (i + 1))
              case measure => have := HKI.out; omega
              case rel => exact ⟨i + 1, _, by go_num, by omega, by have := HKI.out; omega, ⟨by rw [List.length_append, HSL.out]; rfl, HR6.out⟩, fun s hs => by
                rcases List.mem_append.1 hs with hs | hs
                · exact HKS.out s hs
                · simp at hs; subst hs; exact HKQ.out, HBW2.out.trans HB6.out⟩
    · have HR9 := Lib.hid hrow.out
      have HK9 := Lib.hid hks.out
      have HB9 := Lib.hid hb.out
      clear hrow hks hb
      by_cases h1 : i < len
      · have d1 : decide ((i : Int) < (len : Int)) = true := by simp; omega
        have d2 : decide ((i : Int) < 60) = false := by simp; omega
        go_wp2
        go_ret
        exact ⟨_, ss, rfl, HR9.out.2, by rw [HR9.out.1]; have := HKI.out; omega, HK9.out, HB9.out⟩
      · have d1 : decide ((i : Int) < (len : Int)) = false := by simp; omega
        go_wp2
        go_ret
        exact ⟨_, ss, rfl, HR9.out.2, by rw [HR9.out.1]; have := HKI.out; omega, HK9.out, HB9.out⟩
end Go.Proofs.YteibkaonofkcbaaGreat
