/- Joined texts: SI64, Num, OpenVal, OpenVals. -/
import Derived.Test.YteibkaonofkcbaaGreatSCmp
import Derived.Test.YteibkaonofkcbaaGreatTupJoinH
import Derived.Test.YteibkaonofkcbaaGreatTupJoinD
import Derived.Test.YteibkaonofkcbaaGreatIntVal
import Derived.Deep.Slices
import Derived.OpenShut
set_option linter.unusedSimpArgs false
set_option linter.unusedVariables false
namespace Go.Proofs.YteibkaonofkcbaaGreat
open Go.RowKit
attribute [local go_sem ↓] Go.wp_at_zero Go.wp_at_succ
theorem box_one {w W : World} {t : TypeId} {a b : Value} (h : Below (w.heap.size + 1) (w.alloc (.cells #[a, b] t)) W) :
    Blk W w.heap.size t #[a, b] ∧ w.heap.size + 1 ≤ W.heap.size ∧ Below w.heap.size w W :=
  ⟨(Blk.new w t #[a, b]).below h (by omega), by have := h.size; simpa using this, ((Below.refl _ w).alloc (Nat.le_refl _) _).trans (h.mono (by omega))⟩
theorem box_one_cells {w W : World} {t : TypeId} {a b : Value} (h : Below (w.heap.size + 1) (w.alloc (.cells #[a, b] t)) W) :
    W.cell? ⟨w.heap.size, 0, none⟩ = some a ∧ W.cell? ⟨w.heap.size, 1, none⟩ = some b := by
  obtain ⟨e0, e1, _⟩ := blk2 (box_one h).1
  exact ⟨e0, e1⟩
/-- The number, and whether it has room. -/
def S64Post (n : Int) (w : World) (e : Ending) (w' : World) : Prop :=
  (e = .returned (.tuple #[.int .i64 (if -9223372036854775808 ≤ n ∧ n ≤ 9223372036854775807 then n else 0), .bool (decide (-9223372036854775808 ≤ n ∧ n ≤ 9223372036854775807))])) ∧ Below w.heap.size w w'
theorem s64_no {n : Int} {w w' : World} (h : ¬ (-9223372036854775808 ≤ n ∧ n ≤ 9223372036854775807)) (hb : Below w.heap.size w w') : S64Post n w (.returned (.tuple #[.int .i64 0, .bool false])) w' := by
  refine ⟨?_, hb⟩
  rw [if_neg h, decide_eq_false h]
theorem s64_yes {n : Int} {w w' : World} (h : -9223372036854775808 ≤ n ∧ n ≤ 9223372036854775807) (hb : Below w.heap.size w w') : S64Post n w (.returned (.tuple #[.int .i64 n, .bool true])) w' := by
  refine ⟨?_, hb⟩
  rw [if_pos h, decide_eq_true h]
end Go.Proofs.YteibkaonofkcbaaGreat
namespace Go.Proofs.YteibkaonofkcbaaGreat
open Go.RowKit
attribute [local go_sem ↓] Go.wp_at_zero Go.wp_at_succ
/-- A value of the thin package, cell by cell. -/
def pv (k : Int) (neg : Bool) (a : Option Addr) (n c : Nat) (bits : Int) (tx : ByteArray) (ka : Option Addr) (kn kc : Nat) : Value := .agg #[.int .i64 k, .bool neg, .slice a n c, .int .u64 bits, .string tx, .slice ka kn kc]
set_option maxRecDepth 100000 in
set_option maxHeartbeats 2000000 in
theorem num_any (k : Int) (neg : Bool) (a : Option Addr) (n c : Nat) (bits : Int) (tx : ByteArray) (ka : Option Addr) (kn kc : Nat) (l : List Nat) (w : World) (hb : BSl w (.slice a n c) l) (hl : l.length ≤ 70368744177664) :
    Calls Tryz.prog 38 #[pv k neg a n c bits tx ka kn kc] w (OfPost neg l w) := by
  unfold pv
  have HB0 := Lib.hid (((Below.refl w.heap.size w).alloc (Nat.le_refl _) (.cells #[.int .i64 k, .bool neg, .slice a n c, .int .u64 bits, .string tx, .slice ka kn kc] 33)).alloc (by simp) (.cells #[.bool false, .slice none 0 0] 68))
  have HB := Lib.hid (hb.old HB0.out)
  have HL := Lib.hid hl
  have HK := Lib.hid (Blk.new_at (w.alloc (.cells #[.int .i64 k, .bool neg, .slice a n c, .int .u64 bits, .string tx, .slice ka kn kc] 33)) 68 #[.bool false, .slice none 0 0] (n := w.heap.size + 1) (by simp))
  clear hb hl
  go_enter Tryz.func38, Tryz.ntmps38
  go_wp2_with fail
  refine (of_any neg a n c l _ HB.out HL.out).mono ?_
  rintro e w1 ⟨v, rfl, hsi, hb1⟩
  obtain ⟨vs, hv, ho, hhd, hng⟩ := hsi
  obtain ⟨nb, hnb⟩ : ∃ nb, nb = negOf neg l := ⟨_, rfl⟩
  rw [← hnb] at hv
  obtain ⟨g, cc, hvs, hg1, hg2, _, _⟩ := ho.form
  obtain ⟨r, hr⟩ : ∃ r, r = (strip l).length := ⟨_, rfl⟩
  rw [← hr] at hvs
  subst hvs
  subst hv
  have hsz : (w.heap.size + 1 + 1) ≤ g := by simpa using hg1
  have k0 := HK.out.below hb1 (by simp)
  obtain ⟨c0, c1, f0, f1⟩ := blk2 k0
  have HO := Lib.hid ho
  have HNB := Lib.hid hnb
  have HHD := Lib.hid hhd
  have HNG := Lib.hid hng
  have HB1 : Hid (Below w.heap.size w w1) := HB0.out.trans (hb1.mono (by simp; omega))
  clear hb1 ho hnb hhd hng hr hg1 hg2 k0
  go_wp2
  refine bodyPost_ret (v := .agg #[.bool nb, .slice (some ⟨g, 0, none⟩) r cc]) (by simp [results, Tryz.results38, go_sem, c0, c1]) rfl ⟨_, rfl, ⟨.slice (some ⟨g, 0, none⟩) r cc, by rw [HNB.out], ?_, HHD.out, HNG.out⟩, ?_⟩
  · exact (HO.out.only (two_set w1 (w.heap.size + 1) (.bool nb) (.slice (some ⟨g, 0, none⟩) r cc)) (fun k hk e => by simp at hk; omega)).base (by simp; omega)
  · exact HB1.out.trans ((two_set w1 (w.heap.size + 1) (.bool nb) (.slice (some ⟨g, 0, none⟩) r cc)).to_below HB1.out.size (fun k _ e => by omega))
end Go.Proofs.YteibkaonofkcbaaGreat
namespace Go.Proofs.YteibkaonofkcbaaGreat
open Go.RowKit Go.ChangeShapes Go.WideShapes Go.Deep
/-- What a value's bytes are. -/
def ValIn (W : World) (a : Option Addr) (m c : Nat) (l : List Nat) : Prop := BSl W (.slice a m c) l ∧ l.length = m
set_option maxRecDepth 100000 in
theorem open_val {H : Type} {enc : TypeId × Value → H} {w : World} {base b0 : Nat} {r : Reach} {held : Bool} {v : Value} {d : DataW H} {p : List MemPlace}
    (hv : Value.okWide Tryz.prog w r b0 33 v) (h : DataW.Trod enc Tryz.prog w base (fun _ => true) held 33 v d p) :
    ∃ (k : Int) (n : Bool) (a : Option Addr) (m c : Nat) (b : Int) (x : ByteArray) (ka : Option Addr) (kn kc : Nat) (l : List Nat), v = pv k n a m c b x ka kn kc ∧ ValIn w a m c l := by
  have hs : Tryz.prog.underlying 33 = some (.struct (Tryz.prog.fieldsOf 33)) := by kernel_rfl
  have hC : Tryz.prog.cellsOf 33 = 6 := by kernel_rfl
  have hm : (Tryz.prog.fieldsOf 33).map (fun f => (f.type, f.offset, Tryz.prog.cellsOf f.type)) = #[(3, 0, 1), (4, 1, 1), (30, 2, 1), (31, 3, 1), (9, 4, 1), (22, 5, 1)] := by kernel_rfl
  have hsz : (Tryz.prog.fieldsOf 33).size = 6 := by rw [← Array.size_map (f := fun f : Field => (f.type, f.offset, Tryz.prog.cellsOf f.type)), hm]; rfl
  have hF : ∀ (j : Nat) (p : TypeId × Nat × Nat), (#[(3, 0, 1), (4, 1, 1), (30, 2, 1), (31, 3, 1), (9, 4, 1), (22, 5, 1)] : Array (TypeId × Nat × Nat))[j]? = some p → ∃ f : Field, (Tryz.prog.fieldsOf 33)[j]? = some f ∧ f.type = p.1 ∧ f.offset = p.2.1 ∧ Tryz.prog.cellsOf f.type = p.2.2 := by
    intro j p hp
    rw [← hm, Array.getElem?_map] at hp
    obtain ⟨f, h1, rfl⟩ := Option.map_eq_some_iff.1 hp
    exact ⟨f, h1, rfl, rfl, rfl⟩
  have u0 : Tryz.prog.underlying 3 = some (.int .i64) := by kernel_rfl
  have u1 : Tryz.prog.underlying 4 = some .bool := by kernel_rfl
  have u2 : Tryz.prog.underlying 30 = some (.slice 5) := by kernel_rfl
  have u2e : Tryz.prog.underlying 5 = some (.int .u8) := by kernel_rfl
  have u3 : Tryz.prog.underlying 31 = some (.int .u64) := by kernel_rfl
  have u4 : Tryz.prog.underlying 9 = some .string := by kernel_rfl
  have u5 : Tryz.prog.underlying 22 = some (.slice 33) := by kernel_rfl
  obtain ⟨cs, rfl, hcz⟩ := okWide_struct hs hv
  obtain ⟨L⟩ := cs
  match L, hcz.trans hC with
  | [c0, c1, c2, c3, c4, c5], _ =>
    obtain ⟨fuel, hf⟩ := h
    obtain ⟨ys, n, _, _, _, hyl, hg⟩ := DataW.trod_struct hs hf
    rw [hsz] at hyl
    match ys, hyl with
    | [y0, y1, y2, y3, y4, y5], _ =>
      obtain ⟨f0, g0, a0, b0, d0⟩ := hF 0 _ rfl
      obtain ⟨f1, g1, a1, b1, d1⟩ := hF 1 _ rfl
      obtain ⟨f2, g2, a2, b2, d2⟩ := hF 2 _ rfl
      obtain ⟨f3, g3, a3, b3, d3⟩ := hF 3 _ rfl
      obtain ⟨f4, g4, a4, b4, d4⟩ := hF 4 _ rfl
      obtain ⟨f5, g5, a5, b5, d5⟩ := hF 5 _ rfl
      have k0 := hg 0 f0 g0
      have k1 := hg 1 f1 g1
      have k2 := hg 2 f2 g2
      have k3 := hg 3 f3 g3
      have k4 := hg 4 f4 g4
      have k5 := hg 5 f5 g5
      rw [d0, b0, a0] at k0
      rw [d1, b1, a1] at k1
      rw [d2, b2, a2] at k2
      rw [d3, b3, a3] at k3
      rw [d4, b4, a4] at k4
      rw [d5, b5, a5] at k5
      simp [Value.cells] at k0 k1 k2 k3 k4 k5
      obtain ⟨z0, e0, _, _⟩ := DataW.trod_int u0 (x := y0) (cs := [c0]) k0
      obtain ⟨z1, e1, _⟩ := DataW.trod_bool u1 (x := y1) (cs := [c1]) k1
      obtain ⟨z3, e3, _, _⟩ := DataW.trod_int u3 (x := y3) (cs := [c3]) k3
      obtain ⟨z4, e4, _, _⟩ := DataW.trod_string u4 (x := y4) (cs := [c4]) k4
      obtain rfl := (List.cons.inj e0).1
      obtain rfl := (List.cons.inj e1).1
      obtain rfl := (List.cons.inj e3).1
      obtain rfl := (List.cons.inj e4).1
      have hkid : ∃ ka kn kc, c5 = .slice ka kn kc := by
        rcases open_slice u5 k5 with ⟨e, _⟩ | ⟨a, len, cap, _, _, _, _, e, _⟩
        · exact ⟨_, _, _, (List.cons.inj e).1⟩
        · exact ⟨_, _, _, (List.cons.inj e).1⟩
      obtain ⟨ka, kn, kc, rfl⟩ := hkid
      have hmag : ∃ a len cap zs, c2 = .slice a len cap ∧ IsRow .u8 w a len cap zs := by
        rcases open_ints u2 u2e (by kernel_rfl) k2 with ⟨hcs, _⟩ | ⟨x, l, c, zs, hcs, _, hl, hm, hz, _, hcell, hwz⟩
        · exact ⟨none, 0, 0, [], (List.cons.inj hcs).1, .inl ⟨rfl, rfl, rfl, rfl⟩⟩
        · exact ⟨some x, l, c, zs, (List.cons.inj hcs).1, .inr ⟨_, rfl, hl, hm, by simpa using hz, hcell, hwz⟩⟩
      obtain ⟨a, len, cap, zs, rfl, hrow⟩ := hmag
      exact ⟨z0, z1, a, len, cap, z3, z4, ka, kn, kc, _, rfl, bsl_of_row hrow⟩
end Go.Proofs.YteibkaonofkcbaaGreat
namespace Go.Proofs.YteibkaonofkcbaaGreat
open Go.RowKit Go.ChangeShapes Go.WideShapes Go.Deep
/-- A value at an address: its six cells, its bytes. -/
def ValAt (W : World) (p : Addr) : Prop :=
  ∃ (k : Int) (neg : Bool) (a : Option Addr) (m c : Nat) (b : Nat) (tx : ByteArray) (ka : Option Addr) (kn kc : Nat) (l : List Nat),
    (W.cell? p = some (.int .i64 k) ∧ W.cell? (p.add 1) = some (.bool neg) ∧ W.cell? (p.add 2) = some (.slice a m c) ∧ W.cell? (p.add 3) = some (.int .u64 (b : Int)) ∧ W.cell? (p.add 4) = some (.string tx) ∧ W.cell? (p.add 5) = some (.slice ka kn kc)) ∧
    ValIn W a m c l ∧ tx.size ≤ maxLen ∧ (-9223372036854775808 ≤ k ∧ k ≤ 9223372036854775807) ∧ b < 18446744073709551616
def ListIn (W : World) (a : Option Addr) (len cap : Nat) : Prop :=
  (a = none ∧ len = 0 ∧ cap = 0) ∨ ∃ x, a = some x ∧ len ≤ cap ∧ cap ≤ maxLen ∧ ∀ i, i < len → ValAt W (x.add (i * 6))
set_option maxRecDepth 100000 in
theorem open_vals {H : Type} {enc : TypeId × Value → H} {w : World} {base : Nat} {held : Bool} {fuel : Nat} {cs : List Value} {x : DataW H × List MemPlace}
    (h : DataW.trod enc Tryz.prog w base (fun _ => true) held fuel 22 cs = some x) : ∃ a len cap, cs = [.slice a len cap] ∧ ListIn w a len cap := by
  have ht : Tryz.prog.underlying 22 = some (.slice 33) := Tryz.underlying22
  have hs : Tryz.prog.underlying 33 = some (.struct (Tryz.prog.fieldsOf 33)) := by kernel_rfl
  have hC : Tryz.prog.cellsOf 33 = 6 := by kernel_rfl
  have hm : (Tryz.prog.fieldsOf 33).map (fun f => (f.type, f.offset, Tryz.prog.cellsOf f.type)) = #[(3, 0, 1), (4, 1, 1), (30, 2, 1), (31, 3, 1), (9, 4, 1), (22, 5, 1)] := by kernel_rfl
  have hsz : (Tryz.prog.fieldsOf 33).size = 6 := by rw [← Array.size_map (f := fun f : Field => (f.type, f.offset, Tryz.prog.cellsOf f.type)), hm]; rfl
  have hF : ∀ (j : Nat) (p : TypeId × Nat × Nat), (#[(3, 0, 1), (4, 1, 1), (30, 2, 1), (31, 3, 1), (9, 4, 1), (22, 5, 1)] : Array (TypeId × Nat × Nat))[j]? = some p → ∃ f : Field, (Tryz.prog.fieldsOf 33)[j]? = some f ∧ f.type = p.1 ∧ f.offset = p.2.1 ∧ Tryz.prog.cellsOf f.type = p.2.2 := by
    intro j p hp
    rw [← hm, Array.getElem?_map] at hp
    obtain ⟨f, h1, rfl⟩ := Option.map_eq_some_iff.1 hp
    exact ⟨f, h1, rfl, rfl, rfl⟩
  have u0 : Tryz.prog.underlying 3 = some (.int .i64) := by kernel_rfl
  have u1 : Tryz.prog.underlying 4 = some .bool := by kernel_rfl
  have u2 : Tryz.prog.underlying 30 = some (.slice 5) := by kernel_rfl
  have u2e : Tryz.prog.underlying 5 = some (.int .u8) := by kernel_rfl
  have u3 : Tryz.prog.underlying 31 = some (.int .u64) := by kernel_rfl
  have u4 : Tryz.prog.underlying 9 = some .string := by kernel_rfl
  rcases open_slice ht h with ⟨rfl, _⟩ | ⟨a, len, cap, m, n, D, Pl, rfl, _, hl, hmx, hmm, _, hi⟩
  · exact ⟨none, 0, 0, rfl, .inl ⟨rfl, rfl, rfl⟩⟩
  · have hle : len ≤ m := by rw [hmm]; simp; omega
    rw [hC] at hi
    refine ⟨some a, len, cap, rfl, .inr ⟨a, rfl, hl, hmx, fun i hil => ?_⟩⟩
    obtain ⟨cs', hc, ht'⟩ := hi i (by omega)
    obtain ⟨ys, n', _, _, _, hyl, hg⟩ := DataW.trod_struct hs ht'
    obtain ⟨_, hcl, hat⟩ := World.cells?_some hc
    rw [hsz] at hyl
    match cs', hcl with
    | [c0, c1, c2, c3, c4, c5], _ =>
      match ys, hyl with
      | [y0, y1, y2, y3, y4, y5], _ =>
        obtain ⟨f0, g0, a0, b0, d0⟩ := hF 0 _ rfl
        obtain ⟨f1, g1, a1, b1, d1⟩ := hF 1 _ rfl
        obtain ⟨f2, g2, a2, b2, d2⟩ := hF 2 _ rfl
        obtain ⟨f3, g3, a3, b3, d3⟩ := hF 3 _ rfl
        obtain ⟨f4, g4, a4, b4, d4⟩ := hF 4 _ rfl
        obtain ⟨f5, g5, a5, b5, d5⟩ := hF 5 _ rfl
        have k0 := hg 0 f0 g0
        have k1 := hg 1 f1 g1
        have k2 := hg 2 f2 g2
        have k3 := hg 3 f3 g3
        have k4 := hg 4 f4 g4
        have k5 := hg 5 f5 g5
        rw [d0, b0, a0] at k0
        rw [d1, b1, a1] at k1
        rw [d2, b2, a2] at k2
        rw [d3, b3, a3] at k3
        rw [d4, b4, a4] at k4
        rw [d5, b5, a5] at k5
        obtain ⟨z0, e0, _, q0⟩ := DataW.trod_int u0 (x := y0) (cs := [c0]) k0
        obtain ⟨z1, e1, _⟩ := DataW.trod_bool u1 (x := y1) (cs := [c1]) k1
        obtain ⟨z3, e3, _, q3⟩ := DataW.trod_int u3 (x := y3) (cs := [c3]) k3
        obtain ⟨z4, e4, _, q4⟩ := DataW.trod_string u4 (x := y4) (cs := [c4]) k4
        obtain rfl := (List.cons.inj e0).1
        obtain rfl := (List.cons.inj e1).1
        obtain rfl := (List.cons.inj e3).1
        obtain rfl := (List.cons.inj e4).1
        have hkid : ∃ ka kn kc, c5 = .slice ka kn kc := by
          rcases open_slice (x := y5) (cs := [c5]) ht k5 with ⟨e, _⟩ | ⟨a, len, cap, _, _, _, _, e, _⟩
          · exact ⟨_, _, _, (List.cons.inj e).1⟩
          · exact ⟨_, _, _, (List.cons.inj e).1⟩
        obtain ⟨ka, kn, kc, rfl⟩ := hkid
        have hmag : ∃ a len cap zs, c2 = .slice a len cap ∧ IsRow .u8 w a len cap zs := by
          rcases open_ints (x := y2) (cs := [c2]) u2 u2e (by kernel_rfl) k2 with ⟨hcs, _⟩ | ⟨x, l, c, zs, hcs, _, hl, hm, hz, _, hcell, hwz⟩
          · exact ⟨none, 0, 0, [], (List.cons.inj hcs).1, .inl ⟨rfl, rfl, rfl, rfl⟩⟩
          · exact ⟨some x, l, c, zs, (List.cons.inj hcs).1, .inr ⟨_, rfl, hl, hm, by simpa using hz, hcell, hwz⟩⟩
        obtain ⟨aa, ll, cc, zs, rfl, hrow⟩ := hmag
        have w0 := hat 0 (by omega)
        have w1 := hat 1 (by omega)
        have w2 := hat 2 (by omega)
        have w3 := hat 3 (by omega)
        have w4 := hat 4 (by omega)
        have w5 := hat 5 (by omega)
        simp [Lit.wf, IntKind.min, IntKind.max, IntKind.signed, IntKind.bits] at q0 q3
        refine ⟨z0, z1, aa, ll, cc, z3.toNat, z4, ka, kn, kc, _, ⟨?_, by simpa using w1, by simpa using w2, ?_, by simpa using w4, by simpa using w5⟩, bsl_of_row hrow, q4, by omega, by omega⟩
        · have e : (a.add (i * 6)).add 0 = a.add (i * 6) := rfl
          rw [e] at w0
          simpa using w0
        · have e : ((z3.toNat : Nat) : Int) = z3 := by omega
          rw [e]
          simpa using w3
end Go.Proofs.YteibkaonofkcbaaGreat
