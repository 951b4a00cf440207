/- Joined texts: OpenVal, OpenVal3, OpenVals, Clean, ListOf, InsCall, Elems, ImplList, ImplIns, SpecMeth, SameL, Does, InsLaw. -/
import Derived.Test.YtmpfffcdpecadaaGreatNum
import Derived.Deep.Slices
import Derived.OpenShut
import Derived.Test.YtmpfffcdpecadaaGreatSxRow
import Derived.Test.YtmpfffcdpecadaaGreatIntVal
import Derived.Test.YtmpfffcdpecadaaGreatWhole0
import Derived.Deep.RegionHeld3
import Derived.IntWalk
import Derived.Deep.LoopGhost
import Derived.Test.YtmpfffcdpecadaaGreatInsert
import Derived.Test.YtmpfffcdpecadaaGreatTell
import Derived.Test.YtmpfffcdpecadaaGreatScalarsX
import Derived.Test.YtmpfffcdpecadaaGreatIter
import Derived.Test.YtmpfffcdpecadaaGreatSpecIns
import Derived.Test.YtmpfffcdpecadaaGreatSame
import Derived.RegionTactic
import Derived.Deep.DeepCutAuto
namespace Go.Proofs.YtmpfffcdpecadaaGreat
open Go.RowKit Go.ChangeShapes Go.WideShapes Go.Deep
/-- What a value's bytes are. -/
def ValIn (W : World) (a : Option Addr) (m c : Nat) (l : List Nat) : Prop := BSl W (.slice a m c) l ∧ l.length = m
set_option maxRecDepth 100000 in
theorem open_val {H : Type} {enc : TypeId × Value → H} {w : World} {base b0 : Nat} {r : Reach} {held : Bool} {v : Value} {d : DataW H} {p : List MemPlace}
    (hv : Value.okWide Tryz.prog w r b0 26 v) (h : DataW.Trod enc Tryz.prog w base (fun _ => true) held 26 v d p) :
    ∃ (k : Int) (n : Bool) (a : Option Addr) (m c : Nat) (b : Int) (x : ByteArray) (ka : Option Addr) (kn kc : Nat) (l : List Nat), v = pv k n a m c b x ka kn kc ∧ ValIn w a m c l := by
  have hs : Tryz.prog.underlying 26 = some (.struct (Tryz.prog.fieldsOf 26)) := by kernel_rfl
  have hC : Tryz.prog.cellsOf 26 = 6 := by kernel_rfl
  have hm : (Tryz.prog.fieldsOf 26).map (fun f => (f.type, f.offset, Tryz.prog.cellsOf f.type)) = #[(3, 0, 1), (4, 1, 1), (23, 2, 1), (24, 3, 1), (9, 4, 1), (22, 5, 1)] := by kernel_rfl
  have hsz : (Tryz.prog.fieldsOf 26).size = 6 := by rw [← Array.size_map (f := fun f : Field => (f.type, f.offset, Tryz.prog.cellsOf f.type)), hm]; rfl
  have hF : ∀ (j : Nat) (p : TypeId × Nat × Nat), (#[(3, 0, 1), (4, 1, 1), (23, 2, 1), (24, 3, 1), (9, 4, 1), (22, 5, 1)] : Array (TypeId × Nat × Nat))[j]? = some p → ∃ f : Field, (Tryz.prog.fieldsOf 26)[j]? = some f ∧ f.type = p.1 ∧ f.offset = p.2.1 ∧ Tryz.prog.cellsOf f.type = p.2.2 := by
    intro j p hp
    rw [← hm, Array.getElem?_map] at hp
    obtain ⟨f, h1, rfl⟩ := Option.map_eq_some_iff.1 hp
    exact ⟨f, h1, rfl, rfl, rfl⟩
  have u0 : Tryz.prog.underlying 3 = some (.int .i64) := by kernel_rfl
  have u1 : Tryz.prog.underlying 4 = some .bool := by kernel_rfl
  have u2 : Tryz.prog.underlying 23 = some (.slice 5) := by kernel_rfl
  have u2e : Tryz.prog.underlying 5 = some (.int .u8) := by kernel_rfl
  have u3 : Tryz.prog.underlying 24 = some (.int .u64) := by kernel_rfl
  have u4 : Tryz.prog.underlying 9 = some .string := by kernel_rfl
  have u5 : Tryz.prog.underlying 22 = some (.slice 26) := by kernel_rfl
  obtain ⟨cs, rfl, hcz⟩ := okWide_struct hs hv
  obtain ⟨L⟩ := cs
  match L, hcz.trans hC with
  | [c0, c1, c2, c3, c4, c5], _ =>
    obtain ⟨fuel, hf⟩ := h
    obtain ⟨ys, n, _, _, _, hyl, hg⟩ := DataW.trod_struct hs hf
    rw [hsz] at hyl
    match ys, hyl with
    | [y0, y1, y2, y3, y4, y5], _ =>
      obtain ⟨f0, g0, a0, b0, d0⟩ := hF 0 _ rfl
      obtain ⟨f1, g1, a1, b1, d1⟩ := hF 1 _ rfl
      obtain ⟨f2, g2, a2, b2, d2⟩ := hF 2 _ rfl
      obtain ⟨f3, g3, a3, b3, d3⟩ := hF 3 _ rfl
      obtain ⟨f4, g4, a4, b4, d4⟩ := hF 4 _ rfl
      obtain ⟨f5, g5, a5, b5, d5⟩ := hF 5 _ rfl
      have k0 := hg 0 f0 g0
      have k1 := hg 1 f1 g1
      have k2 := hg 2 f2 g2
      have k3 := hg 3 f3 g3
      have k4 := hg 4 f4 g4
      have k5 := hg 5 f5 g5
      rw [d0, b0, a0] at k0
      rw [d1, b1, a1] at k1
      rw [d2, b2, a2] at k2
      rw [d3, b3, a3] at k3
      rw [d4, b4, a4] at k4
      rw [d5, b5, a5] at k5
      simp [Value.cells] at k0 k1 k2 k3 k4 k5
      obtain ⟨z0, e0, _, _⟩ := DataW.trod_int u0 (x := y0) (cs := [c0]) k0
      obtain ⟨z1, e1, _⟩ := DataW.trod_bool u1 (x := y1) (cs := [c1]) k1
      obtain ⟨z3, e3, _, _⟩ := DataW.trod_int u3 (x := y3) (cs := [c3]) k3
      obtain ⟨z4, e4, _, _⟩ := DataW.trod_string u4 (x := y4) (cs := [c4]) k4
      obtain rfl := (List.cons.inj e0).1
      obtain rfl := (List.cons.inj e1).1
      obtain rfl := (List.cons.inj e3).1
      obtain rfl := (List.cons.inj e4).1
      have hkid : ∃ ka kn kc, c5 = .slice ka kn kc := by
        rcases open_slice u5 k5 with ⟨e, _⟩ | ⟨a, len, cap, _, _, _, _, e, _⟩
        · exact ⟨_, _, _, (List.cons.inj e).1⟩
        · exact ⟨_, _, _, (List.cons.inj e).1⟩
      obtain ⟨ka, kn, kc, rfl⟩ := hkid
      have hmag : ∃ a len cap zs, c2 = .slice a len cap ∧ IsRow .u8 w a len cap zs := by
        rcases open_ints u2 u2e (by kernel_rfl) k2 with ⟨hcs, _⟩ | ⟨x, l, c, zs, hcs, _, hl, hm, hz, _, hcell, hwz⟩
        · exact ⟨none, 0, 0, [], (List.cons.inj hcs).1, .inl ⟨rfl, rfl, rfl, rfl⟩⟩
        · exact ⟨some x, l, c, zs, (List.cons.inj hcs).1, .inr ⟨_, rfl, hl, hm, by simpa using hz, hcell, hwz⟩⟩
      obtain ⟨a, len, cap, zs, rfl, hrow⟩ := hmag
      exact ⟨z0, z1, a, len, cap, z3, z4, ka, kn, kc, _, rfl, bsl_of_row hrow⟩
end Go.Proofs.YtmpfffcdpecadaaGreat
namespace Go.Proofs.YtmpfffcdpecadaaGreat
open Go.RowKit Go.ChangeShapes Go.WideShapes Go.Deep
/-- What a value's bytes, bits and text are. -/
def ValIn3 (W : World) (a : Option Addr) (m c : Nat) (b : Int) (x : ByteArray) (l : List Nat) : Prop := ValIn W a m c l ∧ 0 ≤ b ∧ x.size ≤ maxLen
set_option maxRecDepth 100000 in
theorem open_val3 {H : Type} {enc : TypeId × Value → H} {w : World} {base b0 : Nat} {r : Reach} {held : Bool} {v : Value} {d : DataW H} {p : List MemPlace}
    (hv : Value.okWide Tryz.prog w r b0 26 v) (h : DataW.Trod enc Tryz.prog w base (fun _ => true) held 26 v d p) :
    ∃ (k : Int) (n : Bool) (a : Option Addr) (m c : Nat) (b : Int) (x : ByteArray) (ka : Option Addr) (kn kc : Nat) (l : List Nat), v = pv k n a m c b x ka kn kc ∧ ValIn3 w a m c b x l := by
  have hs : Tryz.prog.underlying 26 = some (.struct (Tryz.prog.fieldsOf 26)) := by kernel_rfl
  have hC : Tryz.prog.cellsOf 26 = 6 := by kernel_rfl
  have hm : (Tryz.prog.fieldsOf 26).map (fun f => (f.type, f.offset, Tryz.prog.cellsOf f.type)) = #[(3, 0, 1), (4, 1, 1), (23, 2, 1), (24, 3, 1), (9, 4, 1), (22, 5, 1)] := by kernel_rfl
  have hsz : (Tryz.prog.fieldsOf 26).size = 6 := by rw [← Array.size_map (f := fun f : Field => (f.type, f.offset, Tryz.prog.cellsOf f.type)), hm]; rfl
  have hF : ∀ (j : Nat) (p : TypeId × Nat × Nat), (#[(3, 0, 1), (4, 1, 1), (23, 2, 1), (24, 3, 1), (9, 4, 1), (22, 5, 1)] : Array (TypeId × Nat × Nat))[j]? = some p → ∃ f : Field, (Tryz.prog.fieldsOf 26)[j]? = some f ∧ f.type = p.1 ∧ f.offset = p.2.1 ∧ Tryz.prog.cellsOf f.type = p.2.2 := by
    intro j p hp
    rw [← hm, Array.getElem?_map] at hp
    obtain ⟨f, h1, rfl⟩ := Option.map_eq_some_iff.1 hp
    exact ⟨f, h1, rfl, rfl, rfl⟩
  have u0 : Tryz.prog.underlying 3 = some (.int .i64) := by kernel_rfl
  have u1 : Tryz.prog.underlying 4 = some .bool := by kernel_rfl
  have u2 : Tryz.prog.underlying 23 = some (.slice 5) := by kernel_rfl
  have u2e : Tryz.prog.underlying 5 = some (.int .u8) := by kernel_rfl
  have u3 : Tryz.prog.underlying 24 = some (.int .u64) := by kernel_rfl
  have u4 : Tryz.prog.underlying 9 = some .string := by kernel_rfl
  have u5 : Tryz.prog.underlying 22 = some (.slice 26) := by kernel_rfl
  obtain ⟨cs, rfl, hcz⟩ := okWide_struct hs hv
  obtain ⟨L⟩ := cs
  match L, hcz.trans hC with
  | [c0, c1, c2, c3, c4, c5], _ =>
    obtain ⟨fuel, hf⟩ := h
    obtain ⟨ys, n, _, _, _, hyl, hg⟩ := DataW.trod_struct hs hf
    rw [hsz] at hyl
    match ys, hyl with
    | [y0, y1, y2, y3, y4, y5], _ =>
      obtain ⟨f0, g0, a0, b0, d0⟩ := hF 0 _ rfl
      obtain ⟨f1, g1, a1, b1, d1⟩ := hF 1 _ rfl
      obtain ⟨f2, g2, a2, b2, d2⟩ := hF 2 _ rfl
      obtain ⟨f3, g3, a3, b3, d3⟩ := hF 3 _ rfl
      obtain ⟨f4, g4, a4, b4, d4⟩ := hF 4 _ rfl
      obtain ⟨f5, g5, a5, b5, d5⟩ := hF 5 _ rfl
      have k0 := hg 0 f0 g0
      have k1 := hg 1 f1 g1
      have k2 := hg 2 f2 g2
      have k3 := hg 3 f3 g3
      have k4 := hg 4 f4 g4
      have k5 := hg 5 f5 g5
      rw [d0, b0, a0] at k0
      rw [d1, b1, a1] at k1
      rw [d2, b2, a2] at k2
      rw [d3, b3, a3] at k3
      rw [d4, b4, a4] at k4
      rw [d5, b5, a5] at k5
      simp [Value.cells] at k0 k1 k2 k3 k4 k5
      obtain ⟨z0, e0, _, _⟩ := DataW.trod_int u0 (x := y0) (cs := [c0]) k0
      obtain ⟨z1, e1, _⟩ := DataW.trod_bool u1 (x := y1) (cs := [c1]) k1
      obtain ⟨z3, e3, _, q3⟩ := DataW.trod_int u3 (x := y3) (cs := [c3]) k3
      obtain ⟨z4, e4, _, q4⟩ := DataW.trod_string u4 (x := y4) (cs := [c4]) k4
      obtain rfl := (List.cons.inj e0).1
      obtain rfl := (List.cons.inj e1).1
      obtain rfl := (List.cons.inj e3).1
      obtain rfl := (List.cons.inj e4).1
      have hkid : ∃ ka kn kc, c5 = .slice ka kn kc := by
        rcases open_slice u5 k5 with ⟨e, _⟩ | ⟨a, len, cap, _, _, _, _, e, _⟩
        · exact ⟨_, _, _, (List.cons.inj e).1⟩
        · exact ⟨_, _, _, (List.cons.inj e).1⟩
      obtain ⟨ka, kn, kc, rfl⟩ := hkid
      have hmag : ∃ a len cap zs, c2 = .slice a len cap ∧ IsRow .u8 w a len cap zs := by
        rcases open_ints u2 u2e (by kernel_rfl) k2 with ⟨hcs, _⟩ | ⟨x, l, c, zs, hcs, _, hl, hm, hz, _, hcell, hwz⟩
        · exact ⟨none, 0, 0, [], (List.cons.inj hcs).1, .inl ⟨rfl, rfl, rfl, rfl⟩⟩
        · exact ⟨some x, l, c, zs, (List.cons.inj hcs).1, .inr ⟨_, rfl, hl, hm, by simpa using hz, hcell, hwz⟩⟩
      obtain ⟨a, len, cap, zs, rfl, hrow⟩ := hmag
      simp [Lit.wf, IntKind.min, IntKind.max, IntKind.signed, IntKind.bits] at q3
      exact ⟨z0, z1, a, len, cap, z3, z4, ka, kn, kc, _, rfl, bsl_of_row hrow, by omega, q4⟩
end Go.Proofs.YtmpfffcdpecadaaGreat
namespace Go.Proofs.YtmpfffcdpecadaaGreat
open Go.RowKit Go.ChangeShapes Go.WideShapes Go.Deep
/-- A value at an address: its six cells, its bytes. -/
def ValAt (W : World) (p : Addr) : Prop :=
  ∃ (k : Int) (neg : Bool) (a : Option Addr) (m c : Nat) (b : Nat) (tx : ByteArray) (ka : Option Addr) (kn kc : Nat) (l : List Nat),
    (W.cell? p = some (.int .i64 k) ∧ W.cell? (p.add 1) = some (.bool neg) ∧ W.cell? (p.add 2) = some (.slice a m c) ∧ W.cell? (p.add 3) = some (.int .u64 (b : Int)) ∧ W.cell? (p.add 4) = some (.string tx) ∧ W.cell? (p.add 5) = some (.slice ka kn kc)) ∧
    ValIn W a m c l ∧ tx.size ≤ maxLen ∧ (-9223372036854775808 ≤ k ∧ k ≤ 9223372036854775807) ∧ b < 18446744073709551616
def ListIn (W : World) (a : Option Addr) (len cap : Nat) : Prop :=
  (a = none ∧ len = 0 ∧ cap = 0) ∨ ∃ x, a = some x ∧ len ≤ cap ∧ cap ≤ maxLen ∧ ∀ i, i < len → ValAt W (x.add (i * 6))
set_option maxRecDepth 100000 in
theorem open_vals {H : Type} {enc : TypeId × Value → H} {w : World} {base : Nat} {held : Bool} {fuel : Nat} {cs : List Value} {x : DataW H × List MemPlace}
    (h : DataW.trod enc Tryz.prog w base (fun _ => true) held fuel 22 cs = some x) : ∃ a len cap, cs = [.slice a len cap] ∧ ListIn w a len cap := by
  have ht : Tryz.prog.underlying 22 = some (.slice 26) := Tryz.underlying22
  have hs : Tryz.prog.underlying 26 = some (.struct (Tryz.prog.fieldsOf 26)) := by kernel_rfl
  have hC : Tryz.prog.cellsOf 26 = 6 := by kernel_rfl
  have hm : (Tryz.prog.fieldsOf 26).map (fun f => (f.type, f.offset, Tryz.prog.cellsOf f.type)) = #[(3, 0, 1), (4, 1, 1), (23, 2, 1), (24, 3, 1), (9, 4, 1), (22, 5, 1)] := by kernel_rfl
  have hsz : (Tryz.prog.fieldsOf 26).size = 6 := by rw [← Array.size_map (f := fun f : Field => (f.type, f.offset, Tryz.prog.cellsOf f.type)), hm]; rfl
  have hF : ∀ (j : Nat) (p : TypeId × Nat × Nat), (#[(3, 0, 1), (4, 1, 1), (23, 2, 1), (24, 3, 1), (9, 4, 1), (22, 5, 1)] : Array (TypeId × Nat × Nat))[j]? = some p → ∃ f : Field, (Tryz.prog.fieldsOf 26)[j]? = some f ∧ f.type = p.1 ∧ f.offset = p.2.1 ∧ Tryz.prog.cellsOf f.type = p.2.2 := by
    intro j p hp
    rw [← hm, Array.getElem?_map] at hp
    obtain ⟨f, h1, rfl⟩ := Option.map_eq_some_iff.1 hp
    exact ⟨f, h1, rfl, rfl, rfl⟩
  have u0 : Tryz.prog.underlying 3 = some (.int .i64) := by kernel_rfl
  have u1 : Tryz.prog.underlying 4 = some .bool := by kernel_rfl
  have u2 : Tryz.prog.underlying 23 = some (.slice 5) := by kernel_rfl
  have u2e : Tryz.prog.underlying 5 = some (.int .u8) := by kernel_rfl
  have u3 : Tryz.prog.underlying 24 = some (.int .u64) := by kernel_rfl
  have u4 : Tryz.prog.underlying 9 = some .string := by kernel_rfl
  rcases open_slice ht h with ⟨rfl, _⟩ | ⟨a, len, cap, m, n, D, Pl, rfl, _, hl, hmx, hmm, _, hi⟩
  · exact ⟨none, 0, 0, rfl, .inl ⟨rfl, rfl, rfl⟩⟩
  · have hle : len ≤ m := by rw [hmm]; simp; omega
    rw [hC] at hi
    refine ⟨some a, len, cap, rfl, .inr ⟨a, rfl, hl, hmx, fun i hil => ?_⟩⟩
    obtain ⟨cs', hc, ht'⟩ := hi i (by omega)
    obtain ⟨ys, n', _, _, _, hyl, hg⟩ := DataW.trod_struct hs ht'
    obtain ⟨_, hcl, hat⟩ := World.cells?_some hc
    rw [hsz] at hyl
    match cs', hcl with
    | [c0, c1, c2, c3, c4, c5], _ =>
      match ys, hyl with
      | [y0, y1, y2, y3, y4, y5], _ =>
        obtain ⟨f0, g0, a0, b0, d0⟩ := hF 0 _ rfl
        obtain ⟨f1, g1, a1, b1, d1⟩ := hF 1 _ rfl
        obtain ⟨f2, g2, a2, b2, d2⟩ := hF 2 _ rfl
        obtain ⟨f3, g3, a3, b3, d3⟩ := hF 3 _ rfl
        obtain ⟨f4, g4, a4, b4, d4⟩ := hF 4 _ rfl
        obtain ⟨f5, g5, a5, b5, d5⟩ := hF 5 _ rfl
        have k0 := hg 0 f0 g0
        have k1 := hg 1 f1 g1
        have k2 := hg 2 f2 g2
        have k3 := hg 3 f3 g3
        have k4 := hg 4 f4 g4
        have k5 := hg 5 f5 g5
        rw [d0, b0, a0] at k0
        rw [d1, b1, a1] at k1
        rw [d2, b2, a2] at k2
        rw [d3, b3, a3] at k3
        rw [d4, b4, a4] at k4
        rw [d5, b5, a5] at k5
        obtain ⟨z0, e0, _, q0⟩ := DataW.trod_int u0 (x := y0) (cs := [c0]) k0
        obtain ⟨z1, e1, _⟩ := DataW.trod_bool u1 (x := y1) (cs := [c1]) k1
        obtain ⟨z3, e3, _, q3⟩ := DataW.trod_int u3 (x := y3) (cs := [c3]) k3
        obtain ⟨z4, e4, _, q4⟩ := DataW.trod_string u4 (x := y4) (cs := [c4]) k4
        obtain rfl := (List.cons.inj e0).1
        obtain rfl := (List.cons.inj e1).1
        obtain rfl := (List.cons.inj e3).1
        obtain rfl := (List.cons.inj e4).1
        have hkid : ∃ ka kn kc, c5 = .slice ka kn kc := by
          rcases open_slice (x := y5) (cs := [c5]) ht k5 with ⟨e, _⟩ | ⟨a, len, cap, _, _, _, _, e, _⟩
          · exact ⟨_, _, _, (List.cons.inj e).1⟩
          · exact ⟨_, _, _, (List.cons.inj e).1⟩
        obtain ⟨ka, kn, kc, rfl⟩ := hkid
        have hmag : ∃ a len cap zs, c2 = .slice a len cap ∧ IsRow .u8 w a len cap zs := by
          rcases open_ints (x := y2) (cs := [c2]) u2 u2e (by kernel_rfl) k2 with ⟨hcs, _⟩ | ⟨x, l, c, zs, hcs, _, hl, hm, hz, _, hcell, hwz⟩
          · exact ⟨none, 0, 0, [], (List.cons.inj hcs).1, .inl ⟨rfl, rfl, rfl, rfl⟩⟩
          · exact ⟨some x, l, c, zs, (List.cons.inj hcs).1, .inr ⟨_, rfl, hl, hm, by simpa using hz, hcell, hwz⟩⟩
        obtain ⟨aa, ll, cc, zs, rfl, hrow⟩ := hmag
        have w0 := hat 0 (by omega)
        have w1 := hat 1 (by omega)
        have w2 := hat 2 (by omega)
        have w3 := hat 3 (by omega)
        have w4 := hat 4 (by omega)
        have w5 := hat 5 (by omega)
        simp [Lit.wf, IntKind.min, IntKind.max, IntKind.signed, IntKind.bits] at q0 q3
        refine ⟨z0, z1, aa, ll, cc, z3.toNat, z4, ka, kn, kc, _, ⟨?_, by simpa using w1, by simpa using w2, ?_, by simpa using w4, by simpa using w5⟩, bsl_of_row hrow, q4, by omega, by omega⟩
        · have e : (a.add (i * 6)).add 0 = a.add (i * 6) := rfl
          rw [e] at w0
          simpa using w0
        · have e : ((z3.toNat : Nat) : Int) = z3 := by omega
          rw [e]
          simpa using w3
end Go.Proofs.YtmpfffcdpecadaaGreat
namespace Go.Proofs.YtmpfffcdpecadaaGreat
open Go.RowKit
attribute [local go_sem ↓] Go.wp_at_zero Go.wp_at_succ
theorem clean_kind (k : Int) : ∃ r, (k.tmod 10 + 10).tmod 10 = r ∧ 0 ≤ r ∧ r < 10 ∧ wrap64 (k.tmod 10) = k.tmod 10 ∧ wrap64 (k.tmod 10 + 10) = k.tmod 10 + 10 := by
  have h1 : k.tmod 10 < 10 := Int.tmod_lt_of_pos k (by decide)
  have h2 : -10 < k.tmod 10 := Int.lt_tmod_of_pos k (by decide)
  refine ⟨_, rfl, Int.tmod_nonneg _ (by omega), Int.tmod_lt_of_pos _ (by decide), ?_, ?_⟩
  · unfold wrap64; omega
  · unfold wrap64; omega
theorem bool_val (q : Bool) (w : World) :
    Calls Tryz.prog 12 #[.bool q] w fun e w' => e = .returned (pv 1 false none 0 0 (if q then 1 else 0) ⟨#[]⟩ none 0 0) ∧ Below w.heap.size w w' := by
  cases q with
  | false =>
    have HB := Lib.hid ((Below.refl w.heap.size w).alloc (Nat.le_refl _) (.cells #[.int .i64 1, .bool false, .slice none 0 0, .int .u64 0, .string ⟨#[]⟩, .slice none 0 0] 26))
    go_enter Tryz.func12, Tryz.ntmps12
    go_wp2
    exact bodyPost_ret (v := pv 1 false none 0 0 0 ⟨#[]⟩ none 0 0) (by simp [results, Tryz.results12, go_sem, pv]) rfl ⟨rfl, HB.out⟩
  | true =>
    have HB := Lib.hid ((Below.refl w.heap.size w).alloc (Nat.le_refl _) (.cells #[.int .i64 1, .bool false, .slice none 0 0, .int .u64 1, .string ⟨#[]⟩, .slice none 0 0] 26))
    go_enter Tryz.func12, Tryz.ntmps12
    go_wp2
    exact bodyPost_ret (v := pv 1 false none 0 0 1 ⟨#[]⟩ none 0 0) (by simp [results, Tryz.results12, go_sem, pv]) rfl ⟨rfl, HB.out⟩
def CleanPost (w : World) (e : Ending) (w' : World) : Prop := ∃ v s, e = .returned v ∧ XVal w' w.heap.size v s ∧ Below w.heap.size w w'
set_option maxRecDepth 100000 in
set_option maxHeartbeats 8000000 in
theorem clean_any (k : Int) (neg : Bool) (a : Option Addr) (m c : Nat) (b : Nat) (tx : ByteArray) (ka : Option Addr) (kn kc : Nat) (l : List Nat) (w : World) (hb : BSl w (.slice a m c) l) (hl : l.length = m) (ht : tx.size ≤ maxLen) :
    Calls Tryz.prog 7 #[pv k neg a m c (b : Int) tx ka kn kc, .int .i64 0] w (CleanPost w) := by
  obtain ⟨r, hr, hr0, hr1, hw1, hw2⟩ := clean_kind k
  have HBX := Lib.hid ((Below.refl w.heap.size w).alloc (Nat.le_refl _) (.cells #[.int .i64 k, .bool neg, .slice a m c, .int .u64 (b : Int), .string tx, .slice ka kn kc] 26))
  have HB0 := Lib.hid (HBX.out.alloc (by simp) (.cells #[.int .i64 0, .bool false, .slice none 0 0, .int .u64 0, .string ⟨#[]⟩, .slice none 0 0] 26))
  have HK0 := Lib.hid (Blk.new_at (w.alloc (.cells #[.int .i64 k, .bool neg, .slice a m c, .int .u64 (b : Int), .string tx, .slice ka kn kc] 26)) 26 #[.int .i64 0, .bool false, .slice none 0 0, .int .u64 0, .string ⟨#[]⟩, .slice none 0 0] (n := w.heap.size + 1) (by simp))
  have HKA := Lib.hid ((Blk.new w 26 #[.int .i64 k, .bool neg, .slice a m c, .int .u64 (b : Int), .string tx, .slice ka kn kc]).alloc (.cells #[.int .i64 0, .bool false, .slice none 0 0, .int .u64 0, .string ⟨#[]⟩, .slice none 0 0] 26))
  have HS := Lib.hid hb
  have HL := Lib.hid hl
  clear hb hl
  unfold pv
  have hcases : r = 0 ∨ r = 1 ∨ r = 2 ∨ r = 3 ∨ r = 4 ∨ r = 5 ∨ r = 6 ∨ r = 7 ∨ r = 8 ∨ r = 9 := by omega
  clear hr0 hr1
  rcases hcases with rfl | rfl | rfl | rfl | rfl | rfl | rfl | rfl | rfl | rfl
  · go_enter Tryz.func7, Tryz.ntmps7
    go_wp2
    exact bodyPost_ret (v := pv 0 false none 0 0 0 ⟨#[]⟩ none 0 0) (by simp [results, Tryz.results7, go_sem, pv]) rfl ⟨_, .none, rfl, rfl, HBX.out.alloc (by simp) _⟩
  · obtain ⟨q, hq⟩ : ∃ q, (bits .and .u64 (b : Int) 1 == 1) = q := ⟨_, rfl⟩
    cases q
    · go_enter Tryz.func7, Tryz.ntmps7
      go_wp2_with fail
      refine (bool_val false _).mono ?_
      rintro e w1 ⟨rfl, hb1⟩
      have HB1 := Lib.hid (HB0.out.trans (hb1.mono (by simp <;> omega)))
      obtain ⟨c0, c1, c2, c3, c4, c5, f0, f1, f2, f3, f4, f5⟩ := blk6 (HK0.out.below hb1 (by simp))
      clear hb1
      unfold pv
      go_wp2
      refine bodyPost_ret (v := pv 1 false none 0 0 0 ⟨#[]⟩ none 0 0) (by simp [results, Tryz.results7, go_sem, pv, c0, c1, c2, c3, c4, c5]) rfl ⟨_, .bool false, rfl, rfl, ?_⟩
      exact HB1.out.trans ((six_set w1 (w.heap.size + 1) (.int .i64 1) (.bool false) (.slice none 0 0) (.int .u64 0) (.string ⟨#[]⟩) (.slice none 0 0)).to_below HB1.out.size (fun k _ e => by omega))
    · go_enter Tryz.func7, Tryz.ntmps7
      go_wp2_with fail
      refine (bool_val true _).mono ?_
      rintro e w1 ⟨rfl, hb1⟩
      have HB1 := Lib.hid (HB0.out.trans (hb1.mono (by simp <;> omega)))
      obtain ⟨c0, c1, c2, c3, c4, c5, f0, f1, f2, f3, f4, f5⟩ := blk6 (HK0.out.below hb1 (by simp))
      clear hb1
      unfold pv
      go_wp2
      refine bodyPost_ret (v := pv 1 false none 0 0 1 ⟨#[]⟩ none 0 0) (by simp [results, Tryz.results7, go_sem, pv, c0, c1, c2, c3, c4, c5]) rfl ⟨_, .bool true, rfl, rfl, ?_⟩
      exact HB1.out.trans ((six_set w1 (w.heap.size + 1) (.int .i64 1) (.bool false) (.slice none 0 0) (.int .u64 1) (.string ⟨#[]⟩) (.slice none 0 0)).to_below HB1.out.size (fun k _ e => by omega))
  · have hmc : m ≤ c ∧ c ≤ maxLen := by obtain ⟨a', c', hv, h1, h2, _⟩ := HS.out; injection hv with e1 e2 e3; subst e2 e3; exact ⟨h1, h2⟩
    obtain ⟨j, hj⟩ : ∃ j, (m ≤ 40 ∧ j = m) ∨ (40 < m ∧ j = 40) := by
      by_cases h : m ≤ 40
      · exact ⟨m, .inl ⟨h, rfl⟩⟩
      · exact ⟨40, .inr ⟨by omega, rfl⟩⟩
    have hmin : min (m : Int) 40 = (j : Int) := by omega
    have hjm : j ≤ m := by omega
    have hj40 : j ≤ 40 := by omega
    obtain ⟨sv, hsv⟩ : ∃ sv, sv = Value.slice (if c = 0 then a else a.map (·.add (0 * 1))) j c := ⟨_, rfl⟩
    have hbs := HS.out.to j hjm
    rw [← hsv] at hbs
    have hsl := fun W => slice_to W a m c j (by omega)
    rw [← hsv] at hsl
    obtain ⟨sa, hsa⟩ : ∃ sa, sv = .slice sa j c := ⟨_, hsv⟩
    clear hsv hj hmc
    subst hsa
    have HLJ : Hid ((l.take j).length ≤ 40) := by unfold Hid; rw [List.length_take]; omega
    obtain ⟨w0, hw0⟩ : ∃ w0, w0 = ((w.alloc (.cells #[.int .i64 k, .bool neg, .slice a m c, .int .u64 (b : Int), .string tx, .slice ka kn kc] 26)).alloc (.cells #[.int .i64 0, .bool false, .slice none 0 0, .int .u64 0, .string ⟨#[]⟩, .slice none 0 0] 26)) := ⟨_, rfl⟩
    have HW0 := Lib.hid hw0
    have HSJ := Lib.hid (hbs.old HB0.out)
    rw [← hw0] at HSJ HB0 HK0 HKA
    have hz0 : w0.heap.size = w.heap.size + 2 := by rw [hw0]; simp
    have HZ0 := Lib.hid hz0
    have HCX : Hid (∀ W, Only (· = w.heap.size + 1) w0 W → W.cell? ⟨w.heap.size, 1, none⟩ = some (.bool neg) ∧ W.cell? ⟨w.heap.size, 2, none⟩ = some (.slice a m c)) := fun W h => by
      have k1 := HKA.out.only h (by omega)
      exact ⟨(k1.cell 1).trans rfl, (k1.cell 2).trans rfl⟩
    have HO0 := Lib.hid (Only.refl (· = w.heap.size + 1) w0).drew
    have C0 := Lib.hid (Below.refl w0.heap.size w0).drew
    clear hbs hw0 hz0 hjm
    go_enter Tryz.func7, Tryz.ntmps7
    go_upto_region 8 with fail
    rw [← HW0.out]
    go_region_held3 (fun W => W.cell? ⟨w.heap.size, 1, none⟩ = some (.bool neg) ∧ W.cell? ⟨w.heap.size, 2, none⟩ = some (.slice a m c))
      (first | (refine HCX.out _ ?_; first | with_reducible exact HO0.out | with_reducible exact HO1.out | with_reducible exact HO2.out | ((with_reducible refine HO2.out.trans ?_); exact six_set _ _ _ _ _ _ _ _)) | go_keep)
      (first
      | (go_at_call 14; refine (of_any neg sa j c (l.take j) _ (HSJ.out.old C0.out) (Nat.le_trans HLJ.out (by decide))).mono ?_; rintro e w1 ⟨v1, rfl, hsi, hb1⟩; have HO1 := Lib.hid (HO0.out.below hb1); have C1 := Lib.hid (C0.out.trans (hb1.mono C0.out.size)); have HIV := Lib.hid (intval_any _ _ _ _ _ hsi (Nat.le_trans (strip_le _) (Nat.le_trans HLJ.out (by decide)))); clear hb1 hsi)
      | (go_at_call 13; refine HIV.out.mono ?_; rintro e w2 ⟨vi, rfl, hiv, hb2⟩; have HO2 := Lib.hid (HO1.out.below hb2); have C2 := Lib.hid (C1.out.trans (hb2.mono C1.out.size)); obtain ⟨vs, hvi, ho, hh, hng⟩ := hiv; obtain ⟨g, cc, hvs, _, _, _, _⟩ := ho.form; obtain ⟨rr, hrr⟩ : ∃ r, r = (strip (l.take j)).length := ⟨_, rfl⟩; rw [← hrr] at hvs; subst hvs; subst hvi; obtain ⟨ng, hngq⟩ : ∃ q, q = negOf neg (l.take j) := ⟨_, rfl⟩; rw [← hngq] at hng ⊢; have HNGQ := Lib.hid hngq; have HO := Lib.hid ho; have HH := Lib.hid hh; have HNG := Lib.hid hng; obtain ⟨c0, c1, c2, c3, c4, c5, f0, f1, f2, f3, f4, f5⟩ := blk6 (HK0.out.below C2.out HK0.out.lt); clear hb2 ho hh hng hrr hngq))
    go_wp2
    refine bodyPost_ret (v := .agg #[.int .i64 2, .bool ng, .slice (some ⟨g, 0, none⟩) rr cc, .int .u64 0, .string ⟨#[]⟩, .slice none 0 0]) (by simp [results, Tryz.results7, go_sem, pv, c0, c1, c2, c3, c4, c5]) rfl ⟨_, .int ng (strip (l.take j)), rfl, ⟨⟨.slice (some ⟨g, 0, none⟩) rr cc, rfl, ?_, HH.out, HNG.out⟩, Nat.le_trans (strip_le _) HLJ.out⟩, ?_⟩
    · have hz := HZ0.out
      have s1 := C1.out.size
      exact (HO.out.only (six_set w2 (w.heap.size + 1) (.int .i64 2) (.bool ng) (.slice (some ⟨g, 0, none⟩) rr cc) (.int .u64 0) (.string ⟨#[]⟩) (.slice none 0 0)) (fun k hk e => by omega)).base (by omega)
    · exact (HB0.out.trans (C2.out.mono HB0.out.size)).trans ((six_set w2 (w.heap.size + 1) (.int .i64 2) (.bool ng) (.slice (some ⟨g, 0, none⟩) rr cc) (.int .u64 0) (.string ⟨#[]⟩) (.slice none 0 0)).to_below (HB0.out.trans (C2.out.mono HB0.out.size)).size (fun k _ e => by omega))
  · go_enter Tryz.func7, Tryz.ntmps7
    go_wp2
    exact bodyPost_ret (v := pv 3 false none 0 0 (b : Int) ⟨#[]⟩ none 0 0) (by simp [results, Tryz.results7, go_sem, pv]) rfl ⟨_, .float b, rfl, rfl, HBX.out.alloc (by simp) _⟩
  · go_enter Tryz.func7, Tryz.ntmps7
    go_wp2
    exact bodyPost_ret (v := pv 4 false none 0 0 0 (tx.extract 0 (min (tx.size : Int) 60).toNat) none 0 0) (by simp [results, Tryz.results7, go_sem, pv]) rfl ⟨_, .str _, rfl, ⟨rfl, by simp; omega⟩, HBX.out.alloc (by simp) _⟩
  · go_enter Tryz.func7, Tryz.ntmps7
    go_wp2
    exact bodyPost_ret (v := pv 5 false none 0 0 0 (tx.extract 0 (min (tx.size : Int) 60).toNat) none 0 0) (by simp [results, Tryz.results7, go_sem, pv]) rfl ⟨_, .byt _, rfl, ⟨rfl, by simp; omega⟩, HBX.out.alloc (by simp) _⟩
  · go_enter Tryz.func7, Tryz.ntmps7
    go_wp2
    exact bodyPost_ret (v := pv 0 false none 0 0 0 ⟨#[]⟩ none 0 0) (by simp [results, Tryz.results7, go_sem, pv]) rfl ⟨_, .none, rfl, rfl, HBX.out.alloc (by simp) _⟩
  · obtain ⟨q, hq⟩ : ∃ q, (bits .and .u64 (b : Int) 1 == 1) = q := ⟨_, rfl⟩
    cases q
    · go_enter Tryz.func7, Tryz.ntmps7
      go_wp2_with fail
      refine (bool_val false _).mono ?_
      rintro e w1 ⟨rfl, hb1⟩
      have HB1 := Lib.hid (HB0.out.trans (hb1.mono (by simp <;> omega)))
      obtain ⟨c0, c1, c2, c3, c4, c5, f0, f1, f2, f3, f4, f5⟩ := blk6 (HK0.out.below hb1 (by simp))
      clear hb1
      unfold pv
      go_wp2
      refine bodyPost_ret (v := pv 1 false none 0 0 0 ⟨#[]⟩ none 0 0) (by simp [results, Tryz.results7, go_sem, pv, c0, c1, c2, c3, c4, c5]) rfl ⟨_, .bool false, rfl, rfl, ?_⟩
      exact HB1.out.trans ((six_set w1 (w.heap.size + 1) (.int .i64 1) (.bool false) (.slice none 0 0) (.int .u64 0) (.string ⟨#[]⟩) (.slice none 0 0)).to_below HB1.out.size (fun k _ e => by omega))
    · go_enter Tryz.func7, Tryz.ntmps7
      go_wp2_with fail
      refine (bool_val true _).mono ?_
      rintro e w1 ⟨rfl, hb1⟩
      have HB1 := Lib.hid (HB0.out.trans (hb1.mono (by simp <;> omega)))
      obtain ⟨c0, c1, c2, c3, c4, c5, f0, f1, f2, f3, f4, f5⟩ := blk6 (HK0.out.below hb1 (by simp))
      clear hb1
      unfold pv
      go_wp2
      refine bodyPost_ret (v := pv 1 false none 0 0 1 ⟨#[]⟩ none 0 0) (by simp [results, Tryz.results7, go_sem, pv, c0, c1, c2, c3, c4, c5]) rfl ⟨_, .bool true, rfl, rfl, ?_⟩
      exact HB1.out.trans ((six_set w1 (w.heap.size + 1) (.int .i64 1) (.bool false) (.slice none 0 0) (.int .u64 1) (.string ⟨#[]⟩) (.slice none 0 0)).to_below HB1.out.size (fun k _ e => by omega))
  · have hmc : m ≤ c ∧ c ≤ maxLen := by obtain ⟨a', c', hv, h1, h2, _⟩ := HS.out; injection hv with e1 e2 e3; subst e2 e3; exact ⟨h1, h2⟩
    obtain ⟨j, hj⟩ : ∃ j, (m ≤ 40 ∧ j = m) ∨ (40 < m ∧ j = 40) := by
      by_cases h : m ≤ 40
      · exact ⟨m, .inl ⟨h, rfl⟩⟩
      · exact ⟨40, .inr ⟨by omega, rfl⟩⟩
    have hmin : min (m : Int) 40 = (j : Int) := by omega
    have hjm : j ≤ m := by omega
    have hj40 : j ≤ 40 := by omega
    obtain ⟨sv, hsv⟩ : ∃ sv, sv = Value.slice (if c = 0 then a else a.map (·.add (0 * 1))) j c := ⟨_, rfl⟩
    have hbs := HS.out.to j hjm
    rw [← hsv] at hbs
    have hsl := fun W => slice_to W a m c j (by omega)
    rw [← hsv] at hsl
    obtain ⟨sa, hsa⟩ : ∃ sa, sv = .slice sa j c := ⟨_, hsv⟩
    clear hsv hj hmc
    subst hsa
    have HLJ : Hid ((l.take j).length ≤ 40) := by unfold Hid; rw [List.length_take]; omega
    obtain ⟨w0, hw0⟩ : ∃ w0, w0 = ((w.alloc (.cells #[.int .i64 k, .bool neg, .slice a m c, .int .u64 (b : Int), .string tx, .slice ka kn kc] 26)).alloc (.cells #[.int .i64 0, .bool false, .slice none 0 0, .int .u64 0, .string ⟨#[]⟩, .slice none 0 0] 26)) := ⟨_, rfl⟩
    have HW0 := Lib.hid hw0
    have HSJ := Lib.hid (hbs.old HB0.out)
    rw [← hw0] at HSJ HB0 HK0 HKA
    have hz0 : w0.heap.size = w.heap.size + 2 := by rw [hw0]; simp
    have HZ0 := Lib.hid hz0
    have HCX : Hid (∀ W, Only (· = w.heap.size + 1) w0 W → W.cell? ⟨w.heap.size, 1, none⟩ = some (.bool neg) ∧ W.cell? ⟨w.heap.size, 2, none⟩ = some (.slice a m c)) := fun W h => by
      have k1 := HKA.out.only h (by omega)
      exact ⟨(k1.cell 1).trans rfl, (k1.cell 2).trans rfl⟩
    have HO0 := Lib.hid (Only.refl (· = w.heap.size + 1) w0).drew
    have C0 := Lib.hid (Below.refl w0.heap.size w0).drew
    clear hbs hw0 hz0 hjm
    go_enter Tryz.func7, Tryz.ntmps7
    go_upto_region 8 with fail
    rw [← HW0.out]
    go_region_held3 (fun W => W.cell? ⟨w.heap.size, 1, none⟩ = some (.bool neg) ∧ W.cell? ⟨w.heap.size, 2, none⟩ = some (.slice a m c))
      (first | (refine HCX.out _ ?_; first | with_reducible exact HO0.out | with_reducible exact HO1.out | with_reducible exact HO2.out | ((with_reducible refine HO2.out.trans ?_); exact six_set _ _ _ _ _ _ _ _)) | go_keep)
      (first
      | (go_at_call 14; refine (of_any neg sa j c (l.take j) _ (HSJ.out.old C0.out) (Nat.le_trans HLJ.out (by decide))).mono ?_; rintro e w1 ⟨v1, rfl, hsi, hb1⟩; have HO1 := Lib.hid (HO0.out.below hb1); have C1 := Lib.hid (C0.out.trans (hb1.mono C0.out.size)); have HIV := Lib.hid (intval_any _ _ _ _ _ hsi (Nat.le_trans (strip_le _) (Nat.le_trans HLJ.out (by decide)))); clear hb1 hsi)
      | (go_at_call 13; refine HIV.out.mono ?_; rintro e w2 ⟨vi, rfl, hiv, hb2⟩; have HO2 := Lib.hid (HO1.out.below hb2); have C2 := Lib.hid (C1.out.trans (hb2.mono C1.out.size)); obtain ⟨vs, hvi, ho, hh, hng⟩ := hiv; obtain ⟨g, cc, hvs, _, _, _, _⟩ := ho.form; obtain ⟨rr, hrr⟩ : ∃ r, r = (strip (l.take j)).length := ⟨_, rfl⟩; rw [← hrr] at hvs; subst hvs; subst hvi; obtain ⟨ng, hngq⟩ : ∃ q, q = negOf neg (l.take j) := ⟨_, rfl⟩; rw [← hngq] at hng ⊢; have HNGQ := Lib.hid hngq; have HO := Lib.hid ho; have HH := Lib.hid hh; have HNG := Lib.hid hng; obtain ⟨c0, c1, c2, c3, c4, c5, f0, f1, f2, f3, f4, f5⟩ := blk6 (HK0.out.below C2.out HK0.out.lt); clear hb2 ho hh hng hrr hngq))
    go_wp2
    refine bodyPost_ret (v := .agg #[.int .i64 2, .bool ng, .slice (some ⟨g, 0, none⟩) rr cc, .int .u64 0, .string ⟨#[]⟩, .slice none 0 0]) (by simp [results, Tryz.results7, go_sem, pv, c0, c1, c2, c3, c4, c5]) rfl ⟨_, .int ng (strip (l.take j)), rfl, ⟨⟨.slice (some ⟨g, 0, none⟩) rr cc, rfl, ?_, HH.out, HNG.out⟩, Nat.le_trans (strip_le _) HLJ.out⟩, ?_⟩
    · have hz := HZ0.out
      have s1 := C1.out.size
      exact (HO.out.only (six_set w2 (w.heap.size + 1) (.int .i64 2) (.bool ng) (.slice (some ⟨g, 0, none⟩) rr cc) (.int .u64 0) (.string ⟨#[]⟩) (.slice none 0 0)) (fun k hk e => by omega)).base (by omega)
    · exact (HB0.out.trans (C2.out.mono HB0.out.size)).trans ((six_set w2 (w.heap.size + 1) (.int .i64 2) (.bool ng) (.slice (some ⟨g, 0, none⟩) rr cc) (.int .u64 0) (.string ⟨#[]⟩) (.slice none 0 0)).to_below (HB0.out.trans (C2.out.mono HB0.out.size)).size (fun k _ e => by omega))
  · go_enter Tryz.func7, Tryz.ntmps7
    go_wp2
    exact bodyPost_ret (v := pv 3 false none 0 0 (b : Int) ⟨#[]⟩ none 0 0) (by simp [results, Tryz.results7, go_sem, pv]) rfl ⟨_, .float b, rfl, rfl, HBX.out.alloc (by simp) _⟩
end Go.Proofs.YtmpfffcdpecadaaGreat
namespace Go.Proofs.YtmpfffcdpecadaaGreat
open Go.RowKit
attribute [local go_sem ↓] Go.wp_at_zero Go.wp_at_succ
theorem ValAt.below {w w' : World} {p : Addr} (h : ValAt w p) (hb : Below w.heap.size w w') : ValAt w' p := by
  obtain ⟨k, neg, a, m, c, b, tx, ka, kn, kc, l, ⟨c0, c1, c2, c3, c4, c5⟩, hv, hr⟩ := h
  have hl : p.block < w.heap.size := World.block_lt_of_cell? w _ c0
  exact ⟨k, neg, a, m, c, b, tx, ka, kn, kc, l, ⟨(hb.cell (p := p) hl).trans c0, (hb.cell (p := p.add 1) hl).trans c1, (hb.cell (p := p.add 2) hl).trans c2, (hb.cell (p := p.add 3) hl).trans c3, (hb.cell (p := p.add 4) hl).trans c4, (hb.cell (p := p.add 5) hl).trans c5⟩, ⟨hv.1.old hb, hv.2⟩, hr⟩
def ListPost (w : World) (e : Ending) (w' : World) : Prop := ∃ v ps, e = .returned v ∧ RowX w' w.heap.size v ps ∧ ps.length ≤ 12 ∧ Below w.heap.size w w'
set_option maxRecDepth 100000 in
set_option maxHeartbeats 4000000 in
theorem list_of (a : Option Addr) (len cap : Nat) (w : World) (hl : ListIn w a len cap) :
    Calls Tryz.prog 6 #[.slice a len cap] w (ListPost w) := by
  have HL := Lib.hid hl
  clear hl
  go_enter Tryz.func6, Tryz.ntmps6
  go_wp2_with fail
  go_loopg [3, 4] 12 (fun k ov iv wr => ∃ (i : Nat) (ps : List (Value × Sx)), iv = .int .i64 (i : Int) ∧ i ≤ len ∧ k + i = 12 ∧ Hid (ps.length = i ∧ RowX wr w.heap.size ov ps) ∧ Hid (Below w.heap.size w wr))
  case atStart => exact ⟨0, [], rfl, Nat.zero_le _, rfl, ⟨rfl, RowX.nil _ _⟩, Below.refl _ _⟩
  case round =>
    obtain ⟨i, ps, rfl, hil, hk, hrow, hb⟩ := hrel
    have HK := Lib.hid hk
    clear hk
    by_cases hin : i < len ∧ i < 12
    · obtain ⟨h1, h2⟩ := hin
      have d1 : decide ((i : Int) < (len : Int)) = true := by simp; omega
      have d2 : decide ((i : Int) < 12) = true := by simp; omega
      rcases HL.out with ⟨_, h0, _⟩ | ⟨x, hx, hlc, hcm, hv⟩
      · omega
      · subst hx
        have hva := (hv i h1).below hb.out
        obtain ⟨k, neg, aa, m, c, b, tx, ka, kn, kc, l, ⟨c0, c1, c2, c3, c4, c5⟩, ⟨hbs, hlm⟩, htx, _, _⟩ := hva
        have HCL := Lib.hid (clean_any k neg aa m c b tx ka kn kc l wr hbs hlm htx)
        unfold pv at HCL
        have e1 : wr.cell? ⟨(x.add (i * 6)).block, (x.add (i * 6)).off + 1, none⟩ = some (.bool neg) := c1
        have e2 : wr.cell? ⟨(x.add (i * 6)).block, (x.add (i * 6)).off + 2, none⟩ = some (.slice aa m c) := c2
        have e3 : wr.cell? ⟨(x.add (i * 6)).block, (x.add (i * 6)).off + 3, none⟩ = some (.int .u64 (b : Int)) := c3
        have e4 : wr.cell? ⟨(x.add (i * 6)).block, (x.add (i * 6)).off + 4, none⟩ = some (.string tx) := c4
        have e5 : wr.cell? ⟨(x.add (i * 6)).block, (x.add (i * 6)).off + 5, none⟩ = some (.slice ka kn kc) := c5
        clear c1 c2 c3 c4 c5
        have hi63 : (i : Int) < 9223372036854775807 := by omega
        clear hv hbs hlm htx hlc hcm
        go_wp2_with fail
        refine HCL.out.mono ?_
        rintro e w2 ⟨v, s, rfl, hxv, hb2⟩
        have HB2 := Lib.hid (hb.out.trans (hb2.mono hb.out.size))
        have HROW2 := Lib.hid (hrow.out.2.below hb2)
        have HQ := Lib.hid hrow.out.1
        have hx0 := hxv.base (Nat.zero_le _)
        obtain ⟨n1, a1, m1, c1', b1, x1, rfl⟩ := hx0.form
        obtain ⟨kd, hkd⟩ : ∃ kd, kd = kx s := ⟨_, rfl⟩
        rw [← hkd] at hx0
        have HX := Lib.hid hx0
        have HKD := Lib.hid hkd
        rw [← hkd]
        clear hxv hx0 hb2 hrow hb c0 e1 e2 e3 e4 e5 hkd
        unfold pv
        have hq1000 : ps.length ≤ 1000 := by rw [HQ.out]; omega
        go_wp2_with (at_builtin; refine wpList_append_val rfl (.tmp 15) (.tmp 21) rfl w2 w.heap.size _ ps HROW2.out rfl (pv kd n1 a1 m1 c1' b1 x1 none 0 0) s _ HX.out rfl rfl rfl hq1000 HB2.out.size ?_; intro v6 w6 hr6 hb6)
        have HR6 : Hid ((ps ++ [(pv kd n1 a1 m1 c1' b1 x1 none 0 0, s)]).length = i + 1 ∧ RowX w6 w.heap.size v6 (ps ++ [(pv kd n1 a1 m1 c1' b1 x1 none 0 0, s)])) := ⟨by simp [HQ.out], hr6⟩
        have HB6 := Lib.hid (HB2.out.trans hb6)
        clear hr6 hb6
        go_roundg (12 - (i + 1))
        case measure => have := HK.out; omega
        case rel => exact ⟨i + 1, _, by go_num, by omega, by have := HK.out; omega, HR6, HB6⟩
    · have HR := Lib.hid hrow.out
      have HB9 := Lib.hid hb.out
      clear hrow hb
      by_cases h1 : i < len
      · have d1 : decide ((i : Int) < (len : Int)) = true := by simp; omega
        have d2 : decide ((i : Int) < 12) = false := by simp; omega
        go_wp2
        go_ret
        exact ⟨_, ps, rfl, HR.out.2, by rw [HR.out.1]; have := HK.out; omega, HB9.out⟩
      · have d1 : decide ((i : Int) < (len : Int)) = false := by simp; omega
        go_wp2
        go_ret
        exact ⟨_, ps, rfl, HR.out.2, by rw [HR.out.1]; have := HK.out; omega, HB9.out⟩
end Go.Proofs.YtmpfffcdpecadaaGreat
namespace Go.Proofs.YtmpfffcdpecadaaGreat
open Go.RowKit
attribute [local go_sem ↓] Go.wp_at_zero Go.wp_at_succ
set_option maxRecDepth 100000 in
set_option maxHeartbeats 4000000 in
theorem ins_no (w : World) (L b A ca B : Nat) (v u0 u1 : Value) (s0 s1 : Sx) (ps : List (Value × Sx)) (name : ByteArray) (fn : Value) (hB : BuiltinAt w b name fn (.iface 42 (.pointer (some ⟨L, 0, none⟩)))) (hL : ListB w L v 0) (hR : RowT w B v ps) (hl : ps.length ≤ 1000)
    (h0 : TVal w u0 s0) (h1 : TVal w u1 s1) (hA0 : w.cell? ⟨A, 0, none⟩ = some u0) (hA1 : w.cell? ⟨A, 1, none⟩ = some u1) (hBL : B ≤ L) (hk : idxX s0 = none) :
    Calls Tryz.prog 36 #[.pointer none, .pointer (some ⟨b, 0, none⟩), .slice (some ⟨A, 0, none⟩) 2 ca, .slice none 0 0] w fun e w' => (∃ v, e = .returned (.tuple #[.nilIface, v]) ∧ ErrX v) ∧ Below w.heap.size w w' := by
  have hAl : A < w.heap.size := World.block_lt_of_cell? w _ hA0
  have HB := Lib.hid hB
  have HAL := Lib.hid ((((Below.refl w.heap.size w).alloc (Nat.le_refl _) (.cells #[.int .i64 0] 3)).alloc (by simp) (.cells #[.nilIface] 49)).alloc (by simp; omega) (.cells #[.iface 111 (.pointer (some ⟨w.heap.size, 0, none⟩)), .iface 112 (.pointer (some ⟨w.heap.size + 1, 0, none⟩))] 20))
  have HNAME := Lib.hid (fun W (h : Below w.heap.size w W) => name_of b name fn _ W (hB.below h hB.lt))
  have HA2 := Lib.hid ((((Below.refl w.heap.size w).alloc (Nat.le_refl _) (.cells #[.int .i64 0] 3)).alloc (by simp) (.cells #[.nilIface] 49)))
  have HBQ := Lib.hid (Blk.new_at ((w.alloc (.cells #[.int .i64 0] 3)).alloc (.cells #[.nilIface] 49)) 20 #[.iface 111 (.pointer (some ⟨w.heap.size, 0, none⟩)), .iface 112 (.pointer (some ⟨w.heap.size + 1, 0, none⟩))] (n := w.heap.size + 1 + 1) (by simp))
  have HUN := Lib.hid (unpack_two_no name u0 s0 A ca (w.heap.size + 1 + 1) 2 w.heap.size _ (h0.below HAL.out) hk ((HAL.out.cell (p := ⟨A, 0, none⟩) hAl).trans hA0) ((HBQ.out.cell 0).trans rfl))
  clear hB hL hR h0 h1 hA0 hA1 hk
  go_enter Tryz.func36, Tryz.ntmps36
  go_wp2_with fail
  refine (recv_of b name fn _ _ HB.out).mono ?_
  rintro e w' ⟨rfl, rfl⟩
  go_wp2_with fail
  refine (HNAME.out _ HA2.out).mono ?_
  rintro e w' ⟨rfl, rfl⟩
  go_wp2_with fail
  refine HUN.out.mono ?_
  rintro e w3 ⟨v, rfl, ⟨eb, rfl⟩, hb⟩
  have HBF := Lib.hid (HAL.out.trans (hb.mono HAL.out.size))
  clear hb
  go_wp2
  go_ret2
  exact ⟨⟨_, rfl, ⟨_, rfl⟩⟩, HBF.out⟩
/-- What the call answers, and the list behind it. -/
def InsAll (L B : Nat) (ps : List (Value × Sx)) (s0 : Sx) (y : Value × Sx) (w : World) (e : Ending) (w' : World) : Prop :=
  (idxX s0 = none ∧ (∃ v, e = .returned (.tuple #[.nilIface, v]) ∧ ErrX v) ∧ Below B w w') ∨ (∃ k, idxX s0 = some k ∧ InsPost L B ps y (placeL ps.length k) w e w')
theorem ins_all (w : World) (L b A ca B : Nat) (v u0 u1 : Value) (s0 s1 : Sx) (ps : List (Value × Sx)) (name : ByteArray) (fn : Value) (hB : BuiltinAt w b name fn (.iface 42 (.pointer (some ⟨L, 0, none⟩)))) (hL : ListB w L v 0) (hR : RowT w B v ps) (hl : ps.length ≤ 1000)
    (h0 : TVal w u0 s0) (h1 : TVal w u1 s1) (hA0 : w.cell? ⟨A, 0, none⟩ = some u0) (hA1 : w.cell? ⟨A, 1, none⟩ = some u1) (hBL : B ≤ L) :
    Calls Tryz.prog 36 #[.pointer none, .pointer (some ⟨b, 0, none⟩), .slice (some ⟨A, 0, none⟩) 2 ca, .slice none 0 0] w (InsAll L B ps s0 (u1, s1) w) := by
  have hLl : L < w.heap.size := hL.lt
  cases hk : idxX s0 with
  | none => exact (ins_no w L b A ca B v u0 u1 s0 s1 ps name fn hB hL hR hl h0 h1 hA0 hA1 hBL hk).mono fun e w' ⟨h, hb⟩ => .inl ⟨hk, h, hb.mono (by omega)⟩
  | some k =>
    have hf : Fits64 k := by
      obtain ⟨neg, l, rfl⟩ := idx_int hk
      exact (idx_some hk).2
    have key : ∀ j, j = placeL ps.length k → Calls Tryz.prog 36 #[.pointer none, .pointer (some ⟨b, 0, none⟩), .slice (some ⟨A, 0, none⟩) 2 ca, .slice none 0 0] w (InsPost L B ps (u1, s1) j w) → Calls Tryz.prog 36 #[.pointer none, .pointer (some ⟨b, 0, none⟩), .slice (some ⟨A, 0, none⟩) 2 ca, .slice none 0 0] w (InsAll L B ps s0 (u1, s1) w) :=
      fun j hj h => h.mono fun e w' h => .inr ⟨k, hk, hj ▸ h⟩
    by_cases h1k : k < 0
    · by_cases h2 : k + (ps.length : Int) < 0
      · have hp : placeL ps.length k = 0 := by unfold placeL; rw [if_pos h1k]; omega
        by_cases h3 : ps.length = 0
        · exact key 0 hp.symm (ins_none w L b A ca B v u0 u1 s0 s1 k ps name fn hB hL hR hl h0 h1 hA0 hA1 hBL hk hf.1 h2 h3 0 rfl)
        · exact key 0 hp.symm (ins_front w L b A ca B v u0 u1 s0 s1 k ps name fn hB hL hR hl h0 h1 hA0 hA1 hBL hk hf.1 h2 (by omega) 0 rfl)
      · obtain ⟨j, hj⟩ : ∃ j : Nat, k + (ps.length : Int) = (j : Int) := ⟨(k + ps.length).toNat, by omega⟩
        exact key j (by unfold placeL; rw [if_pos h1k, hj]; simp) (ins_back w L b A ca B v u0 u1 s0 s1 k ps name fn hB hL hR hl h0 h1 hA0 hA1 hBL hk h1k j hj)
    · by_cases h2 : (ps.length : Int) ≤ k
      · exact key ps.length (by unfold placeL; rw [if_neg h1k]; omega) (ins_end w L b A ca B v u0 u1 s0 s1 k ps name fn hB hL hR hl h0 h1 hA0 hA1 hBL hk h2)
      · exact key k.toNat (by unfold placeL; rw [if_neg h1k]; omega) (ins_mid w L b A ca B v u0 u1 s0 s1 k ps name fn hB hL hR hl h0 h1 hA0 hA1 hBL hk (by omega) (by omega))
theorem InsAll.form {L B : Nat} {ps : List (Value × Sx)} {s0 : Sx} {y : Value × Sx} {w w' : World} {e : Ending} (h : InsAll L B ps s0 y w e w') :
    ∃ r v, e = .returned (.tuple #[r, v]) ∧ (∃ T z, r = .iface T z ∧ v = .nilIface ∨ r = .nilIface ∧ v = .iface T z) ∧ InsAll L B ps s0 y w (.returned (.tuple #[r, v])) w' := by
  rcases h with ⟨h1, ⟨v, rfl, ⟨eb, rfl⟩⟩, h3⟩ | ⟨k, hk, ⟨rfl, h⟩⟩
  · exact ⟨_, _, rfl, ⟨_, _, .inr ⟨rfl, rfl⟩⟩, .inl ⟨h1, ⟨_, rfl, ⟨_, rfl⟩⟩, h3⟩⟩
  · exact ⟨_, _, rfl, ⟨_, _, .inl ⟨rfl, rfl⟩⟩, .inr ⟨k, hk, rfl, h⟩⟩
theorem InsAll.from {L B : Nat} {ps : List (Value × Sx)} {s0 : Sx} {y : Value × Sx} {w w0 w' : World} {e : Ending} (h : InsAll L B ps s0 y w e w') (hb : Below B w0 w) : InsAll L B ps s0 y w0 e w' := by
  rcases h with ⟨h1, h2, h3⟩ | ⟨k, hk, he, v', h1, h2, h3⟩
  · exact .inl ⟨h1, h2, hb.trans h3⟩
  · exact .inr ⟨k, hk, he, v', h1, h2, hb.trans h3⟩
set_option maxHeartbeats 1600000 in
theorem zz_on (name : ByteArray) (w : World) (L A ca B : Nat) (v u0 u1 : Value) (s0 s1 : Sx) (ps : List (Value × Sx)) (hL : ListB w L v 0) (hR : RowT w B v ps) (hl : ps.length ≤ 1000)
    (h0 : TVal w u0 s0) (h1 : TVal w u1 s1) (hA0 : w.cell? ⟨A, 0, none⟩ = some u0) (hA1 : w.cell? ⟨A, 1, none⟩ = some u1) (hBL : B ≤ L) :
    Calls Tryz.prog 35 #[.string name, .func (.func 36) #[] #[], .pointer (some ⟨L, 0, none⟩), .slice (some ⟨A, 0, none⟩) 2 ca] w (InsAll L B ps s0 (u1, s1) w) := by
  have hAl : A < w.heap.size := World.block_lt_of_cell? w _ hA0
  have hLl : L < w.heap.size := hL.lt
  have HC := Lib.hid (fun (W : World) (b : Nat) (hb : Below w.heap.size w W) (hB : BuiltinAt W b name (.func (.func 36) #[] #[]) (.iface 42 (.pointer (some ⟨L, 0, none⟩)))) => ins_all W L b A ca B v u0 u1 s0 s1 ps name _ hB (hL.below hb hL.lt) (hR.below hb) hl (h0.below hb) (h1.below hb) ((hb.cell (p := ⟨A, 0, none⟩) hAl).trans hA0) ((hb.cell (p := ⟨A, 1, none⟩) hAl).trans hA1) hBL)
  clear hL hR hl h0 h1 hA0 hA1
  go_enter Tryz.func35, Tryz.ntmps35
  go_wp2_with fail
  refine (new_builtin name _ _).mono ?_
  rintro e w1 ⟨b, rfl, hB, hb⟩
  have HB := Lib.hid hB
  have HB1 := Lib.hid hb
  clear hB hb
  go_wp2_with fail
  refine (bind_list name _ b L _ HB.out).mono ?_
  rintro e w2 ⟨b2, rfl, hB2, hb2⟩
  have HB2 := Lib.hid hB2
  have HBB := Lib.hid (HB1.out.trans (hb2.mono HB1.out.size))
  clear hB2 hb2
  go_wp2_with fail
  refine (HC.out w2 b2 HBB.out HB2.out).mono ?_
  rintro e w3 h3
  obtain ⟨r, ve, rfl, hf, h4⟩ := (h3.from (HBB.out.mono (by omega))).form
  have H4 := Lib.hid h4
  clear h3 h4
  rcases hf with ⟨T, z, ⟨rfl, rfl⟩ | ⟨rfl, rfl⟩⟩
  all_goals
    go_wp2
    go_ret2
    exact H4.out
set_option maxHeartbeats 1600000 in
theorem zz_insert (w : World) (L A ca B : Nat) (v u0 u1 : Value) (s0 s1 : Sx) (ps : List (Value × Sx)) (hL : ListB w L v 0) (hR : RowT w B v ps) (hl : ps.length ≤ 1000)
    (h0 : TVal w u0 s0) (h1 : TVal w u1 s1) (hA0 : w.cell? ⟨A, 0, none⟩ = some u0) (hA1 : w.cell? ⟨A, 1, none⟩ = some u1) (hBL : B ≤ L) :
    Calls Tryz.prog 20 #[.pointer (some ⟨L, 0, none⟩), .slice (some ⟨A, 0, none⟩) 2 ca] w (InsAll L B ps s0 (u1, s1) w) := by
  have HC := Lib.hid (fun name => zz_on name w L A ca B v u0 u1 s0 s1 ps hL hR hl h0 h1 hA0 hA1 hBL)
  clear hL hR hl h0 h1 hA0 hA1 hBL
  go_enter Tryz.func20, Tryz.ntmps20
  go_wp2_with fail
  refine (HC.out _).mono ?_
  rintro e w3 h3
  obtain ⟨r, ve, rfl, hf, h4⟩ := h3.form
  have H4 := Lib.hid h4
  clear h3 h4
  rcases hf with ⟨T, z, ⟨rfl, rfl⟩ | ⟨rfl, rfl⟩⟩
  all_goals
    go_wp2
    go_ret2
    exact H4.out
end Go.Proofs.YtmpfffcdpecadaaGreat
namespace Go.Proofs.YtmpfffcdpecadaaGreat
open Go.RowKit
attribute [local go_sem ↓] Go.wp_at_zero Go.wp_at_succ
def ElemsPost (ps : List (Value × Sx)) (w : World) (e : Ending) (w' : World) : Prop := ∃ u qs, e = .returned u ∧ RowR w' w.heap.size u qs ∧ qs.map (·.2) = ps.map (·.2) ∧ Below w.heap.size w w'
set_option maxRecDepth 100000 in
set_option maxHeartbeats 4000000 in
theorem elements_any (L B : Nat) (v : Value) (k0 : Int) (ps : List (Value × Sx)) (w : World) (hL : ListB w L v k0) (hR : RowT w B v ps) (hl : ps.length ≤ 1000) (hn : ∀ p ∈ ps, NormX p.2) :
    Calls Tryz.prog 37 #[.pointer (some ⟨L, 0, none⟩)] w (ElemsPost ps w) := by
  obtain ⟨i0, hi0, hz0, hz1, hz2⟩ := info_parts Tryz.infoVal
  obtain ⟨n, hn0⟩ : ∃ n, n = ps.length := ⟨_, rfl⟩
  obtain ⟨W1, hmk, hown, hg⟩ := run_make_own (P := Tryz.prog) w w.heap.size 22 26 i0 _ 6 Tryz.underlying22 hi0 hz0 hz1 .i64 .i64 n (by rw [hz2]; omega) (by unfold maxLen; omega) (Nat.le_refl _)
  have hbw : Below w.heap.size w W1 := (Below.refl _ w).grown hg (Nat.le_refl _) (by simp)
  obtain ⟨a, c, hva⟩ : ∃ a c, v = .slice a ps.length c := by
    rcases hR.1.2 with ⟨rfl, h0⟩ | ⟨g, cap, cur, rfl, _⟩
    · exact ⟨none, 0, by rw [h0]⟩
    · exact ⟨_, _, rfl⟩
  rw [← hn0] at hva hl
  subst hva
  have HLEN := Lib.hid (fun W (h : Below w.heap.size w W) => list_len L n c a k0 W (hL.below h hL.lt))
  have HL := Lib.hid hL
  have HR := Lib.hid hR
  have HN := Lib.hid hn
  have HN0 := Lib.hid hn0
  have HO := Lib.hid hown
  have HBW := Lib.hid hbw
  clear hL hR hn hn0 hown hbw hg
  go_enter Tryz.func37, Tryz.ntmps37
  go_wp2_with fail
  refine (HLEN.out _ (Below.refl _ _)).mono ?_
  rintro e w' ⟨rfl, rfl⟩
  go_wp2_with fail
  refine (HLEN.out _ HBW.out).mono ?_
  rintro e w' ⟨rfl, rfl⟩
  go_wp2_with fail
  go_loopg [3, 10] n (fun k ov jv wr => ∃ (i : Nat) (qs : List (Value × Sx)), jv = .int .i64 (i : Int) ∧ k + i ≤ n ∧ n ≤ k + i ∧ Hid (qs.length = i ∧ RowR wr w.heap.size ov qs ∧ qs.map (·.2) = (ps.take i).map (·.2)) ∧ Hid (Below w.heap.size w wr))
  case atStart => exact ⟨0, [], rfl, by omega, by omega, ⟨rfl, ⟨HO.out, fun p hp => by simp at hp⟩, rfl⟩, HBW.out⟩
  case round =>
    obtain ⟨i, qs, rfl, hk1, hk2, hrow, hb⟩ := hrel
    by_cases hin : i < n
    · have hil : i < ps.length := by rw [← HN0.out]; exact hin
      have hd : decide ((i : Int) < (n : Int)) = true := by simp; omega
      have hd' : decide (i < n) = true := by simp; omega
      obtain ⟨u, s, hus⟩ : ∃ u s, ps[i] = (u, s) := ⟨_, _, rfl⟩
      have hr := HR.out.below hb.out
      have hlr := HL.out.below hb.out HL.out.lt
      have htv : TVal wr u s := by have := hr.2 _ (List.getElem_mem hil); rw [hus] at this; exact this
      have hnx : NormX s := by have := HN.out _ (List.getElem_mem hil); rw [hus] at this; exact this
      obtain ⟨g, hga, hgc⟩ : ∃ g, a = some ⟨g, 0, none⟩ ∧ wr.cell? ⟨g, i, none⟩ = some u := by
        rcases hr.1.2 with ⟨_, h0⟩ | ⟨g, cap, cur, hv, hb, hh, _⟩
        · omega
        · injection hv with h1
          have := hr.1.cells (g := g) (by rw [h1]; rfl) i u (by simp [hil, hus])
          rw [Addr.add_lit] at this
          exact ⟨g, h1, by simpa using this⟩
      subst hga
      have HIX := Lib.hid (list_index L n c g i k0 u wr hlr hin (by omega) hgc htv.iface)
      have HTS := Lib.hid (tell_scalar u s wr htv hnx)
      have HNX : Hid ((ps.take (i + 1)).map (·.2) = (ps.take i).map (·.2) ++ [s]) := by
        unfold Hid
        rw [List.take_succ_eq_append_getElem hil, List.map_append, hus]; rfl
      have HQ := Lib.hid hrow.out.1
      have HRW := Lib.hid hrow.out.2.1
      have HQM := Lib.hid hrow.out.2.2
      have HB := Lib.hid hb.out
      clear hr hlr htv hnx hgc hus hrow hb
      go_wp2_with fail
      refine HIX.out.mono ?_
      rintro e w' ⟨rfl, rfl⟩
      go_wp2_with fail
      refine HTS.out.mono ?_
      rintro e w2 ⟨y, rfl, hy, hb2⟩
      have HB2 := Lib.hid (HB.out.trans (hb2.mono HB.out.size))
      have HROW2 := Lib.hid (HRW.out.below hb2)
      obtain ⟨n1, a1, m1, c1, b1, x1, rfl⟩ := hy.form
      obtain ⟨kd, hkd⟩ : ∃ kd, kd = kx s := ⟨_, rfl⟩
      rw [← hkd] at hy
      have HY := Lib.hid hy
      have HKD := Lib.hid hkd
      rw [← hkd]
      have hq1000 : qs.length ≤ 1000 := by rw [HQ.out]; omega
      clear hy hb2 hkd
      unfold pv
      go_wp2_with (at_builtin; refine wpList_append_r rfl (.tmp 13) (.tmp 18) rfl w2 w.heap.size _ qs HROW2.out rfl (pv kd n1 a1 m1 c1 b1 x1 none 0 0) s _ HY.out rfl rfl rfl hq1000 HB2.out.size ?_; intro v6 w6 hr6 hb6)
      have HR6 : Hid ((qs ++ [(pv kd n1 a1 m1 c1 b1 x1 none 0 0, s)]).length = i + 1 ∧ RowR w6 w.heap.size v6 (qs ++ [(pv kd n1 a1 m1 c1 b1 x1 none 0 0, s)]) ∧ (qs ++ [(pv kd n1 a1 m1 c1 b1 x1 none 0 0, s)]).map (·.2) = (ps.take (i + 1)).map (·.2)) := by
        refine ⟨by simp [HQ.out], hr6, ?_⟩
        rw [List.map_append, HQM.out, HNX.out]
        rfl
      have HB6 := Lib.hid (HB2.out.trans hb6)
      clear hr6 hb6
      go_roundg (n - (i + 1))
      case measure => omega
      case rel => exact ⟨i + 1, _, by go_num, by omega, by omega, HR6, HB6⟩
    · obtain rfl : i = n := by omega
      have HRR := Lib.hid hrow.out
      have HB9 := Lib.hid hb.out
      have hd : decide ((i : Int) < (i : Int)) = false := by simp
      clear hrow hb
      go_wp2
      go_ret
      refine ⟨_, qs, rfl, HRR.out.2.1, ?_, HB9.out⟩
      have h := HRR.out.2.2
      rw [HN0.out, List.take_length] at h
      exact h
theorem behind_err (L : Nat) (T : TypeId) (z : Value) (w : World) :
    Calls Tryz.prog 21 #[.pointer (some ⟨L, 0, none⟩), .iface T z] w fun e w' => e = .returned (.tuple #[.slice none 0 0, .bool false, .bool true]) ∧ w = w' := by
  go_enter Tryz.func21, Tryz.ntmps21
  go_wp2
  go_ret3
  exact ⟨rfl, rfl⟩
def BehindPost (ps : List (Value × Sx)) (w : World) (e : Ending) (w' : World) : Prop := ∃ u qs, e = .returned (.tuple #[u, .bool true, .bool true]) ∧ RowR w' w.heap.size u qs ∧ qs.map (·.2) = ps.map (·.2) ∧ Below w.heap.size w w'
theorem behind_ok (L B : Nat) (v : Value) (k0 : Int) (ps : List (Value × Sx)) (w : World) (hL : ListB w L v k0) (hR : RowT w B v ps) (hl : ps.length ≤ 1000) (hn : ∀ p ∈ ps, NormX p.2) :
    Calls Tryz.prog 21 #[.pointer (some ⟨L, 0, none⟩), .nilIface] w (BehindPost ps w) := by
  have HE := Lib.hid (elements_any L B v k0 ps w hL hR hl hn)
  clear hL hR hl hn
  go_enter Tryz.func21, Tryz.ntmps21
  go_wp2_with fail
  refine HE.out.mono ?_
  rintro e w1 ⟨u, qs, rfl, hr, hm, hb⟩
  have HR := Lib.hid hr
  have HM := Lib.hid hm
  have HB := Lib.hid hb
  obtain ⟨a, c, rfl⟩ := hr.form
  obtain ⟨n, hn⟩ : ∃ n, n = qs.length := ⟨_, rfl⟩
  rw [← hn] at HR ⊢
  clear hr hm hb hn
  go_wp2
  go_ret3
  exact ⟨_, qs, rfl, HR.out, HM.out, HB.out⟩
end Go.Proofs.YtmpfffcdpecadaaGreat
namespace Go.Proofs.YtmpfffcdpecadaaGreat
open Go.RowKit
theorem RowT.form {w : World} {B : Nat} {v : Value} {ps : List (Value × Sx)} (h : RowT w B v ps) : ∃ a c, v = .slice a ps.length c := by
  rcases h.1.2 with ⟨rfl, h0⟩ | ⟨g, cap, cur, rfl, _⟩
  · exact ⟨none, 0, by rw [h0]⟩
  · exact ⟨_, _, rfl⟩
def ImplListPost (ps : List (Value × Sx)) (w : World) (e : Ending) (w' : World) : Prop := ∃ L u qs, e = .returned (.tuple #[.pointer (some ⟨L, 0, none⟩), .bool true]) ∧ w.heap.size ≤ L ∧ ListB w' L u 0 ∧ RowT w' w.heap.size u qs ∧ qs.map (·.2) = ps.map (·.2) ∧ Below w.heap.size w w'
set_option maxRecDepth 100000 in
theorem impl_list (B : Nat) (v : Value) (ps : List (Value × Sx)) (w : World) (hv : RowX w B v ps) (hl : ps.length ≤ 1000) :
    Calls Tryz.prog 17 #[v] w (ImplListPost ps w) := by
  have HS := Lib.hid (scalars_x B v ps w hv hl)
  clear hv
  go_enter Tryz.func17, Tryz.ntmps17
  go_wp2_with fail
  refine HS.out.mono ?_
  rintro e w1 ⟨u, qs, rfl, hr, hm, hb⟩
  obtain ⟨a, c, rfl⟩ := hr.form
  obtain ⟨n, hn⟩ : ∃ n, n = qs.length := ⟨_, rfl⟩
  rw [← hn] at hr
  have HR := Lib.hid hr
  have HM := Lib.hid hm
  have HB := Lib.hid hb
  rw [← hn]
  clear hr hm hb hn
  go_wp2_with fail
  refine (new_list a n c _).mono ?_
  rintro e w2 ⟨rfl, rfl⟩
  go_wp2
  go_ret2
  exact ⟨w1.heap.size, _, qs, rfl, HB.out.size, Blk.new _ _ _, HR.out.below ((Below.refl _ w1).alloc (Nat.le_refl _) _), HM.out, HB.out.alloc HB.out.size _⟩
end Go.Proofs.YtmpfffcdpecadaaGreat
namespace Go.Proofs.YtmpfffcdpecadaaGreat
open Go.RowKit
attribute [local go_sem ↓] Go.wp_at_zero Go.wp_at_succ
theorem one_x (v : Value) (s : Sx) (w : World) (hv : XVal w 0 v s) : Calls Tryz.prog 19 #[v] w (ScPost s w) := by
  obtain ⟨neg, a, n, c, b, tx, he⟩ := hv.form
  have HB0 := Lib.hid (val_below w (kx s) neg a n c b tx)
  have HS := Lib.hid (scalar_x v s _ (hv.below HB0.out))
  rw [he] at HS ⊢
  obtain ⟨kd, hkd⟩ : ∃ kd, kd = kx s := ⟨_, rfl⟩
  rw [← hkd] at HS HB0 ⊢
  unfold pv at HS ⊢
  clear hv he hkd
  go_enter Tryz.func19, Tryz.ntmps19
  go_wp2_with fail
  refine HS.out.mono ?_
  rintro e w1 ⟨u, rfl, hu, hb⟩
  have HU := Lib.hid hu
  have HB := Lib.hid (HB0.out.trans (hb.mono HB0.out.size))
  obtain ⟨t, y, rfl⟩ := hu.iface
  clear hu hb
  go_wp2
  go_ret2
  exact ⟨_, rfl, HU.out, HB.out⟩
theorem bounds_x (B : Nat) (v : Value) (ps : List (Value × Sx)) (w : World) (hv : RowX w B v ps) (hl : ps.length ≤ 1000) :
    Calls Tryz.prog 18 #[v] w (ScsPost ps w) := by
  have HS := Lib.hid (scalars_x B v ps w hv hl)
  clear hv hl
  go_enter Tryz.func18, Tryz.ntmps18
  go_wp2_with fail
  refine HS.out.mono ?_
  rintro e w1 ⟨u, qs, rfl, hr, hm, hb⟩
  obtain ⟨a, c, rfl⟩ := hr.form
  obtain ⟨n, hn⟩ : ∃ n, n = qs.length := ⟨_, rfl⟩
  rw [← hn] at hr ⊢
  have HR := Lib.hid hr
  have HM := Lib.hid hm
  have HB := Lib.hid hb
  clear hr hm hb hn
  go_wp2
  go_ret2
  exact ⟨_, qs, rfl, HR.out, HM.out, HB.out⟩
/-- What the thin package answers. -/
def ImplInsPost (l : List Sx) (s0 s1 : Sx) (w : World) (e : Ending) (w' : World) : Prop :=
  ((idxX s0 = none ∧ e = .returned (.tuple #[.slice none 0 0, .bool false, .bool true])) ∨
    (∃ k u qs, idxX s0 = some k ∧ e = .returned (.tuple #[u, .bool true, .bool true]) ∧ RowR w' w.heap.size u qs ∧ qs.map (·.2) = insL l (placeL l.length k) s1)) ∧ Below w.heap.size w w'
theorem map_insL {α β : Type} (f : α → β) (l : List α) (j : Nat) (x : α) : (insL l j x).map f = insL (l.map f) j (f x) := by
  unfold insL
  rw [List.map_append, List.map_cons, List.map_take, List.map_drop]
theorem mem_insL {α : Type} {l : List α} {j : Nat} {x y : α} (h : y ∈ insL l j x) : y = x ∨ y ∈ l := by
  unfold insL at h
  rcases List.mem_append.1 h with h | h
  · exact .inr (List.mem_of_mem_take h)
  · rcases List.mem_cons.1 h with h | h
    · exact .inl h
    · exact .inr (List.mem_of_mem_drop h)
theorem insL_len {α : Type} (l : List α) (j : Nat) (x : α) : (insL l j x).length ≤ l.length + 1 := by
  unfold insL
  rw [List.length_append, List.length_cons, List.length_take, List.length_drop]
  omega
theorem norm_of {ps qs : List (Value × Sx)} (h : qs.map (·.2) = ps.map (·.2)) (hn : ∀ p ∈ ps, NormX p.2) : ∀ p ∈ qs, NormX p.2 := fun p hp => by
  have : p.2 ∈ ps.map (·.2) := h ▸ List.mem_map.2 ⟨p, hp, rfl⟩
  obtain ⟨q, hq, e⟩ := List.mem_map.1 this
  rw [← e]; exact hn q hq
set_option maxRecDepth 100000 in
set_option maxHeartbeats 4000000 in
theorem impl_insert (B : Nat) (v va vx : Value) (s0 s1 : Sx) (ps : List (Value × Sx)) (w : World) (hv : RowX w B v ps) (hl : ps.length ≤ 100) (h0 : XVal w 0 va s0) (h1 : XVal w 0 vx s1) :
    Calls Tryz.prog 8 #[v, va, vx] w (ImplInsPost (ps.map (·.2)) s0 s1 w) := by
  obtain ⟨n0, a0, m0, c0, b0, x0, e0⟩ := h0.form
  obtain ⟨n1, a1, m1, c1, b1, x1, e1⟩ := h1.form
  obtain ⟨k0, hk0⟩ : ∃ k, k = kx s0 := ⟨_, rfl⟩
  obtain ⟨k1, hk1⟩ : ∃ k, k = kx s1 := ⟨_, rfl⟩
  rw [← hk0] at e0
  rw [← hk1] at e1
  have HA : Hid (Below w.heap.size w ((w.alloc (.cells #[.int .i64 k0, .bool n0, .slice a0 m0 c0, .int .u64 b0, .string x0, .slice none 0 0] 26)).alloc (.cells #[.int .i64 k1, .bool n1, .slice a1 m1 c1, .int .u64 b1, .string x1, .slice none 0 0] 26))) := ((Below.refl _ _).alloc (Nat.le_refl _) _).alloc (by simp) _
  have HK0 := Lib.hid ((Blk.new w 26 #[.int .i64 k0, .bool n0, .slice a0 m0 c0, .int .u64 b0, .string x0, .slice none 0 0]).alloc (.cells #[.int .i64 k1, .bool n1, .slice a1 m1 c1, .int .u64 b1, .string x1, .slice none 0 0] 26))
  have HK1 := Lib.hid (Blk.new_at (w.alloc (.cells #[.int .i64 k0, .bool n0, .slice a0 m0 c0, .int .u64 b0, .string x0, .slice none 0 0] 26)) 26 #[.int .i64 k1, .bool n1, .slice a1 m1 c1, .int .u64 b1, .string x1, .slice none 0 0] (n := w.heap.size + 1) (by simp))
  have HIL := Lib.hid (impl_list B v ps _ (hv.below HA.out) (by omega))
  have HN : Hid (∀ p ∈ ps, NormX p.2) := fun p hp => (hv.2 p hp).norm
  have HN1 := Lib.hid h1.norm
  have HV0 : Hid (XVal w 0 (pv k0 n0 a0 m0 c0 b0 x0 none 0 0) s0) := e0 ▸ h0
  have HV1 : Hid (XVal w 0 (pv k1 n1 a1 m1 c1 b1 x1 none 0 0) s1) := e1 ▸ h1
  have HL := Lib.hid hl
  subst e0 e1
  clear hv h0 h1 hk0 hk1 hl
  unfold pv
  go_enter Tryz.func8, Tryz.ntmps8
  go_wp2_with fail
  refine HIL.out.mono ?_
  rintro e w1 ⟨L, u, qs, rfl, hLw, hL, hr, hm, hb⟩
  have HB1 := Lib.hid (HA.out.trans (hb.mono HA.out.size))
  have HLB := Lib.hid hL
  have HR := Lib.hid hr
  have HM := Lib.hid hm
  have k1' := HK0.out.below hb HK0.out.lt
  have HK1b := Lib.hid (HK1.out.below hb HK1.out.lt)
  obtain ⟨y0, y1, y2, y3, y4, y5, g0, g1, g2, g3, g4, g5⟩ := blk6 k1'
  have hal2 : Below w1.heap.size w1 (w1.alloc (.cells #[.int .i64 k0, .bool n0, .slice a0 m0 c0, .int .u64 b0, .string x0, .slice none 0 0] 26)) := (Below.refl _ _).alloc (Nat.le_refl _) _
  have HB2 := Lib.hid (HB1.out.trans (hal2.mono HB1.out.size))
  have HRX : Hid (RowX (w1.alloc (.cells #[.int .i64 k0, .bool n0, .slice a0 m0 c0, .int .u64 b0, .string x0, .slice none 0 0] 26)) w1.heap.size (.slice (some ⟨w1.heap.size, 0, none⟩) 1 1) [(pv k0 n0 a0 m0 c0 b0 x0 none 0 0, s0)]) := by
    refine ⟨World.ownsRow_lit (base := w1.heap.size) (e := 26) (size := 6) w1 #[.int .i64 k0, .bool n0, .slice a0 m0 c0, .int .u64 b0, .string x0, .slice none 0 0] 1 (Nat.le_refl _) (by unfold maxLen; omega) rfl, fun p hp => ?_⟩
    simp at hp
    subst hp
    exact HV0.out.below HB2.out
  have HBD := Lib.hid (bounds_x w1.heap.size _ _ _ HRX.out (by simp))
  have hLw' := hLw
  clear hL hr hm hb k1' hal2 hLw
  go_wp2_with fail
  refine HBD.out.mono ?_
  rintro e w2 ⟨ub, qb, rfl, hrb, hmb, hb2⟩
  obtain ⟨p0, rfl⟩ : ∃ p, qb = [p] := by
    match qb, hmb with
    | [p], _ => exact ⟨p, rfl⟩
  have hp0 : p0.2 = s0 := by simpa using hmb
  obtain ⟨gb, cb, hub, hcb⟩ : ∃ g c, ub = .slice (some ⟨g, 0, none⟩) 1 c ∧ w2.cell? ⟨g, 0, none⟩ = some p0.1 := by
    rcases hrb.1.2 with ⟨_, h0⟩ | ⟨g, cap, cur, hv, _⟩
    · simp at h0
    · have := hrb.1.cells (g := g) (by rw [hv]; rfl) 0 p0.1 (by simp)
      rw [Addr.add_lit] at this
      exact ⟨g, cap, hv, by simpa using this⟩
  subst hub
  have ht0 : TVal w2 p0.1 s0 := hp0 ▸ hrb.2 p0 (by simp)
  have HT0 := Lib.hid ht0
  have HB3 := Lib.hid (HB2.out.trans (hb2.mono HB2.out.size))
  have hb12 : Below w1.heap.size w1 w2 := ((Below.refl w1.heap.size w1).alloc (Nat.le_refl _) _).trans (hb2.mono (by simp))
  have HLB2 := Lib.hid (HLB.out.below hb12 HLB.out.lt)
  have HR2 := Lib.hid (HR.out.below hb12)
  have HK2 := Lib.hid (HK1b.out.below hb12 HK1b.out.lt)
  obtain ⟨u0, hu0⟩ : ∃ u, u = p0.1 := ⟨_, rfl⟩
  rw [← hu0] at hcb HT0 ht0
  have HON := Lib.hid (one_x _ s1 w2 (HV1.out.below HB3.out))
  obtain ⟨z0, z1, z2, z3, z4, z5, f0, f1, f2, f3, f4, f5⟩ := blk6 HK2.out
  obtain ⟨tu, zu, rfl⟩ := ht0.iface
  have HCB := Lib.hid hcb
  have hgl : gb < w2.heap.size := World.block_lt_of_cell? w2 _ hcb
  unfold pv at HON
  clear hrb hmb hp0 hu0 hb2 hb12 hcb ht0 y0 y1 y2 y3 y4 y5 g0 g1 g2 g3 g4 g5
  go_wp2_with fail
  refine HON.out.mono ?_
  rintro e w3 ⟨u1, rfl, ht1, hb3⟩
  have HB4 := Lib.hid (HB3.out.trans (hb3.mono HB3.out.size))
  have HLB3 := Lib.hid (HLB2.out.below hb3 HLB2.out.lt)
  have HR3 := Lib.hid (HR2.out.below hb3)
  have HT03 := Lib.hid (HT0.out.below hb3)
  have HT1 := Lib.hid ht1
  have hcb3 : w3.cell? ⟨gb, 0, none⟩ = some (.iface tu zu) := (hb3.cell (p := ⟨gb, 0, none⟩) hgl).trans HCB.out
  obtain ⟨tv, zv, rfl⟩ := ht1.iface
  have hal5 : Below w3.heap.size w3 (w3.alloc (.cells #[.iface tu zu, .iface tv zv] 49)) := (Below.refl _ _).alloc (Nat.le_refl _) _
  have HB5 := Lib.hid (HB4.out.trans (hal5.mono HB4.out.size))
  have hql : qs.length = ps.length := by have := congrArg List.length HM.out; simpa using this
  have HBA := Lib.hid (Blk.new w3 49 #[.iface tu zu, .iface tv zv])
  have HZ := Lib.hid (zz_insert (w3.alloc (.cells #[.iface tu zu, .iface tv zv] 49)) L w3.heap.size 2 w.heap.size u (.iface tu zu) (.iface tv zv) s0 s1 qs (HLB3.out.below hal5 HLB3.out.lt) ⟨own_base (HR3.out.below hal5).1 (by have := HA.out.size; exact this), (HR3.out.below hal5).2⟩ (by have := HL.out; omega) (HT03.out.below hal5) (HT1.out.below hal5) ((HBA.out.cell 0).trans rfl) ((HBA.out.cell 1).trans rfl) (by have := HA.out.size; omega))
  have HQL := Lib.hid hql
  clear hb3 ht1 hal5 hql z0 z1 z2 z3 z4 z5 f0 f1 f2 f3 f4 f5
  go_wp2_with fail
  refine HZ.out.mono ?_
  rintro e w4 h4
  rcases h4.from HB5.out with ⟨hk, ⟨ve, rfl, eb, rfl⟩, hb6⟩ | ⟨k, hk, rfl, v', hL6, hR6, hb6⟩
  · have HK := Lib.hid hk
    have HB6 := Lib.hid hb6
    clear h4 hk hb6
    go_wp2_with fail
    refine (behind_err L _ _ _).mono ?_
    rintro e w' ⟨rfl, rfl⟩
    go_wp2
    go_ret3
    exact ⟨.inl ⟨HK.out, rfl⟩, HB6.out⟩
  · have HK := Lib.hid hk
    have HB6 := Lib.hid hb6
    have hnq : ∀ p ∈ insL qs (placeL qs.length k) (Value.iface tv zv, s1), NormX p.2 := fun p hp => by
      rcases mem_insL hp with rfl | hp
      · exact HN1.out
      · exact norm_of HM.out HN.out p hp
    have HBO := Lib.hid (behind_ok L w.heap.size v' 0 _ w4 hL6 hR6 (by have := insL_len qs (placeL qs.length k) (Value.iface tv zv, s1); have := HQL.out; have := HL.out; omega) hnq)
    clear h4 hk hb6 hL6 hR6 hnq
    go_wp2_with fail
    refine HBO.out.mono ?_
    rintro e w5 ⟨ur, qr, rfl, hrr, hmr, hb7⟩
    have HRR := Lib.hid hrr
    have HMR := Lib.hid hmr
    have HB7 := Lib.hid (HB6.out.trans (hb7.mono HB6.out.size))
    obtain ⟨ar, cr, rfl⟩ := hrr.form
    obtain ⟨nr, hnr⟩ : ∃ n, n = qr.length := ⟨_, rfl⟩
    rw [← hnr] at HRR ⊢
    clear hrr hmr hb7 hnr
    go_wp2
    go_ret3
    refine ⟨.inr ⟨k, _, qr, HK.out, rfl, ⟨own_base HRR.out.1 HB6.out.size, HRR.out.2⟩, ?_⟩, HB7.out⟩
    rw [HMR.out, map_insL, HM.out, HQL.out, List.length_map]
end Go.Proofs.YtmpfffcdpecadaaGreat
namespace Go.Proofs.YtmpfffcdpecadaaGreat
open Go.RowKit
attribute [local go_sem ↓] Go.wp_at_zero Go.wp_at_succ
theorem spec_ins (w : World) (B A ca : Nat) (ka : Option Addr) (kc : Nat) (ps : List (Value × Sx)) (s0 s1 : Sx) (n0 n1 : Bool) (a0 a1 : Option Addr) (m0 c0 m1 c1 : Nat) (b0 b1 : Int) (x0 x1 : ByteArray)
    (hR : RowR w B (.slice ka ps.length kc) ps) (hl : ps.length ≤ 100) (hA : A < w.heap.size) (h0 : SixAt w A 0 (kx s0) n0 a0 m0 c0 b0 x0) (h1 : SixAt w A 6 (kx s1) n1 a1 m1 c1 b1 x1)
    (v0 : XVal w 0 (pv (kx s0) n0 a0 m0 c0 b0 x0 none 0 0) s0) (v1 : XVal w 0 (pv (kx s1) n1 a1 m1 c1 b1 x1 none 0 0) s1) :
    Calls Tryz.prog 40 #[pv 6 false none 0 0 0 ⟨#[]⟩ ka ps.length kc, .slice (some ⟨A, 0, none⟩) 2 ca] w (SpecInsPost (ps.map (·.2)) s0 s1 w) := by
  cases h : idxX s0 with
  | none => exact spec_ins_no w B A ca ka kc ps s0 s1 n0 n1 a0 a1 m0 c0 m1 c1 b0 b1 x0 x1 hR hl hA h0 h1 v0 v1 h
  | some k => exact spec_ins_yes w B A ca ka kc ps s0 s1 n0 n1 a0 a1 m0 c0 m1 c1 b0 b1 x0 x1 hR hl hA h0 h1 v0 v1 k h
set_option maxRecDepth 100000 in
set_option maxHeartbeats 8000000 in
theorem spec_method (w : World) (B A ca : Nat) (ka : Option Addr) (kc : Nat) (ps : List (Value × Sx)) (s0 s1 : Sx) (n0 n1 : Bool) (a0 a1 : Option Addr) (m0 c0 m1 c1 : Nat) (b0 b1 : Int) (x0 x1 : ByteArray)
    (hR : RowR w B (.slice ka ps.length kc) ps) (hl : ps.length ≤ 100) (hA : A < w.heap.size) (h0 : SixAt w A 0 (kx s0) n0 a0 m0 c0 b0 x0) (h1 : SixAt w A 6 (kx s1) n1 a1 m1 c1 b1 x1)
    (v0 : XVal w 0 (pv (kx s0) n0 a0 m0 c0 b0 x0 none 0 0) s0) (v1 : XVal w 0 (pv (kx s1) n1 a1 m1 c1 b1 x1 none 0 0) s1) :
    Calls Tryz.prog 22 #[pv 6 false none 0 0 0 ⟨#[]⟩ ka ps.length kc, .string ⟨#[105, 110, 115, 101, 114, 116]⟩, .slice (some ⟨A, 0, none⟩) 2 ca] w (SpecInsPost (ps.map (·.2)) s0 s1 w) := by
  obtain ⟨n, hn⟩ : ∃ n, n = ps.length := ⟨_, rfl⟩
  have HN := Lib.hid hn
  have HAL : Hid (Below w.heap.size w (((w.alloc (.cells #[.int .i64 6, .bool false, .slice none 0 0, .int .u64 0, .string ⟨#[]⟩, .slice ka n kc] 26)).alloc (.cells #[.int .i64 0, .bool false, .slice none 0 0, .int .u64 0, .string ⟨#[]⟩, .slice none 0 0] 26)).alloc (.cells #[.int .i64 0, .bool false, .slice none 0 0, .int .u64 0, .string ⟨#[]⟩, .slice none 0 0] 26))) := (((Below.refl _ _).alloc (Nat.le_refl _) _).alloc (by simp) _).alloc (by simp; omega) _
  have HA4 : Hid (Below (((w.alloc (.cells #[.int .i64 6, .bool false, .slice none 0 0, .int .u64 0, .string ⟨#[]⟩, .slice ka n kc] 26)).alloc (.cells #[.int .i64 0, .bool false, .slice none 0 0, .int .u64 0, .string ⟨#[]⟩, .slice none 0 0] 26)).alloc (.cells #[.int .i64 0, .bool false, .slice none 0 0, .int .u64 0, .string ⟨#[]⟩, .slice none 0 0] 26)).heap.size (((w.alloc (.cells #[.int .i64 6, .bool false, .slice none 0 0, .int .u64 0, .string ⟨#[]⟩, .slice ka n kc] 26)).alloc (.cells #[.int .i64 0, .bool false, .slice none 0 0, .int .u64 0, .string ⟨#[]⟩, .slice none 0 0] 26)).alloc (.cells #[.int .i64 0, .bool false, .slice none 0 0, .int .u64 0, .string ⟨#[]⟩, .slice none 0 0] 26)) ((((w.alloc (.cells #[.int .i64 6, .bool false, .slice none 0 0, .int .u64 0, .string ⟨#[]⟩, .slice ka n kc] 26)).alloc (.cells #[.int .i64 0, .bool false, .slice none 0 0, .int .u64 0, .string ⟨#[]⟩, .slice none 0 0] 26)).alloc (.cells #[.int .i64 0, .bool false, .slice none 0 0, .int .u64 0, .string ⟨#[]⟩, .slice none 0 0] 26)).alloc (.cells #[] 26))) := (Below.refl _ _).alloc (Nat.le_refl _) _
  have HBX := Lib.hid (((Blk.new w 26 #[.int .i64 6, .bool false, .slice none 0 0, .int .u64 0, .string ⟨#[]⟩, .slice ka n kc]).alloc (.cells #[.int .i64 0, .bool false, .slice none 0 0, .int .u64 0, .string ⟨#[]⟩, .slice none 0 0] 26)).alloc (.cells #[.int .i64 0, .bool false, .slice none 0 0, .int .u64 0, .string ⟨#[]⟩, .slice none 0 0] 26))
  have HBY := Lib.hid ((Blk.new_at (w.alloc (.cells #[.int .i64 6, .bool false, .slice none 0 0, .int .u64 0, .string ⟨#[]⟩, .slice ka n kc] 26)) 26 #[.int .i64 0, .bool false, .slice none 0 0, .int .u64 0, .string ⟨#[]⟩, .slice none 0 0] (n := w.heap.size + 1) (by simp)).alloc (.cells #[.int .i64 0, .bool false, .slice none 0 0, .int .u64 0, .string ⟨#[]⟩, .slice none 0 0] 26))
  have HBZ := Lib.hid (Blk.new_at ((w.alloc (.cells #[.int .i64 6, .bool false, .slice none 0 0, .int .u64 0, .string ⟨#[]⟩, .slice ka n kc] 26)).alloc (.cells #[.int .i64 0, .bool false, .slice none 0 0, .int .u64 0, .string ⟨#[]⟩, .slice none 0 0] 26)) 26 #[.int .i64 0, .bool false, .slice none 0 0, .int .u64 0, .string ⟨#[]⟩, .slice none 0 0] (n := w.heap.size + 1 + 1) (by simp))
  have HHD := Lib.hid (((hR.below HAL.out).below HA4.out).head ps.length (Nat.le_refl _))
  have HRW0 : Hid (RowR ((((w.alloc (.cells #[.int .i64 6, .bool false, .slice none 0 0, .int .u64 0, .string ⟨#[]⟩, .slice ka n kc] 26)).alloc (.cells #[.int .i64 0, .bool false, .slice none 0 0, .int .u64 0, .string ⟨#[]⟩, .slice none 0 0] 26)).alloc (.cells #[.int .i64 0, .bool false, .slice none 0 0, .int .u64 0, .string ⟨#[]⟩, .slice none 0 0] 26)).alloc (.cells #[] 26)) (((w.alloc (.cells #[.int .i64 6, .bool false, .slice none 0 0, .int .u64 0, .string ⟨#[]⟩, .slice ka n kc] 26)).alloc (.cells #[.int .i64 0, .bool false, .slice none 0 0, .int .u64 0, .string ⟨#[]⟩, .slice none 0 0] 26)).alloc (.cells #[.int .i64 0, .bool false, .slice none 0 0, .int .u64 0, .string ⟨#[]⟩, .slice none 0 0] 26)).heap.size (.slice (some ⟨w.heap.size + 1 + 1 + 1, 0, none⟩) 0 0) []) := ⟨by
    have := World.ownsRow_lit (base := (((w.alloc (.cells #[.int .i64 6, .bool false, .slice none 0 0, .int .u64 0, .string ⟨#[]⟩, .slice ka n kc] 26)).alloc (.cells #[.int .i64 0, .bool false, .slice none 0 0, .int .u64 0, .string ⟨#[]⟩, .slice none 0 0] 26)).alloc (.cells #[.int .i64 0, .bool false, .slice none 0 0, .int .u64 0, .string ⟨#[]⟩, .slice none 0 0] 26)).heap.size) (e := 26) (size := 6) (((w.alloc (.cells #[.int .i64 6, .bool false, .slice none 0 0, .int .u64 0, .string ⟨#[]⟩, .slice ka n kc] 26)).alloc (.cells #[.int .i64 0, .bool false, .slice none 0 0, .int .u64 0, .string ⟨#[]⟩, .slice none 0 0] 26)).alloc (.cells #[.int .i64 0, .bool false, .slice none 0 0, .int .u64 0, .string ⟨#[]⟩, .slice none 0 0] 26)) #[] 0 (Nat.le_refl _) (by unfold maxLen; omega) rfl
    simpa using this, fun p hp => by simp at hp⟩
  have HALL := Lib.hid (And.intro hR (And.intro hl (And.intro hA (And.intro h0 (And.intro h1 (And.intro v0 v1))))))
  have e5 := ((HBX.out.below HA4.out HBX.out.lt).cell 5).trans rfl
  have HL := Lib.hid hl
  rw [← HN.out] at HHD ⊢
  unfold pv
  clear hR hl hA h0 h1 v0 v1 hn
  go_enter Tryz.func22, Tryz.ntmps22
  go_wp2_with (
  at_builtin
  refine wpList_append_seg rfl _ (.tmp 17) (.tmp 19) rfl _ _ [] HRW0.out rfl _ n _ _ HHD.out.1 rfl (by simp) (by have := HL.out; rw [← HN.out] at this; omega) (by simp) ?_
  intro v9 w1 hr9 hb9 hg9
  have H1a : Hid (Below w.heap.size w w1) := HAL.out.trans ((HA4.out.trans hb9).mono HAL.out.size)
  have HXY : Hid (Below (((w.alloc (.cells #[.int .i64 6, .bool false, .slice none 0 0, .int .u64 0, .string ⟨#[]⟩, .slice ka n kc] 26)).alloc (.cells #[.int .i64 0, .bool false, .slice none 0 0, .int .u64 0, .string ⟨#[]⟩, .slice none 0 0] 26)).alloc (.cells #[.int .i64 0, .bool false, .slice none 0 0, .int .u64 0, .string ⟨#[]⟩, .slice none 0 0] 26)).heap.size (((w.alloc (.cells #[.int .i64 6, .bool false, .slice none 0 0, .int .u64 0, .string ⟨#[]⟩, .slice ka n kc] 26)).alloc (.cells #[.int .i64 0, .bool false, .slice none 0 0, .int .u64 0, .string ⟨#[]⟩, .slice none 0 0] 26)).alloc (.cells #[.int .i64 0, .bool false, .slice none 0 0, .int .u64 0, .string ⟨#[]⟩, .slice none 0 0] 26)) w1) := HA4.out.trans hb9
  have HBX1 := Lib.hid (HBX.out.below HXY.out HBX.out.lt)
  have HBY1 := Lib.hid (HBY.out.below HXY.out HBY.out.lt)
  have HBZ1 := Lib.hid (HBZ.out.below HXY.out HBZ.out.lt)
  obtain ⟨e0, e1, e2, e3, e4, e5, g0, g1, g2, g3, g4, g5⟩ := blk6 HBX1.out
  obtain ⟨q1, q2, q3, q4, q5, q6, q7⟩ := HALL.out
  have HC := Lib.hid (spec_ins w1 B A ca ka kc ps s0 s1 n0 n1 a0 a1 m0 c0 m1 c1 b0 b1 x0 x1 (q1.below H1a.out) q2 (Nat.lt_of_lt_of_le q3 H1a.out.size) (q4.below q3 H1a.out) (q5.below q3 H1a.out) (q6.below H1a.out) (q7.below H1a.out))
  rw [← HN.out] at HC
  unfold pv at HC
  clear q1 q2 q3 q4 q5 q6 q7 hr9 hb9 hg9)
  refine HC.out.mono ?_
  rintro e w2 ⟨q, m, c, rfl, hq, hb2⟩
  have HB1 : Hid (Below w.heap.size w w2) := H1a.out.trans (hb2.mono H1a.out.size)
  have HQ := Lib.hid hq
  have HS1 := Lib.hid H1a.out.size
  have HBY2 := Lib.hid (HBY1.out.below hb2 HBY1.out.lt)
  have HBZ2 := Lib.hid (HBZ1.out.below hb2 HBZ1.out.lt)
  obtain ⟨y0, y1, y2, y3, y4, y5, yg0, yg1, yg2, yg3, yg4, yg5⟩ := blk6 HBY2.out
  obtain ⟨z0, z1, z2, z3, z4, z5, zg0, zg1, zg2, zg3, zg4, zg5⟩ := blk6 HBZ2.out
  clear hq hb2 e0 e1 e2 e3 e4 e5 g0 g1 g2 g3 g4 g5
  unfold pv
  go_wp2
  obtain ⟨W, hW⟩ : ∃ x, x = ((((((((((((w2.setCell ⟨w.heap.size + 1, 0, none⟩ (.int .i64 0)).setCell ⟨w.heap.size + 1, 1, none⟩ (.bool false)).setCell ⟨w.heap.size + 1, 2, none⟩ (.slice none 0 0)).setCell ⟨w.heap.size + 1, 3, none⟩ (.int .u64 0)).setCell ⟨w.heap.size + 1, 4, none⟩ (.string ⟨#[]⟩)).setCell ⟨w.heap.size + 1, 5, none⟩ (.slice none 0 0)).setCell ⟨w.heap.size + 1 + 1, 0, none⟩ (.int .i64 6)).setCell ⟨w.heap.size + 1 + 1, 1, none⟩ (.bool false)).setCell ⟨w.heap.size + 1 + 1, 2, none⟩ (.slice none 0 0)).setCell ⟨w.heap.size + 1 + 1, 3, none⟩ (.int .u64 0)).setCell ⟨w.heap.size + 1 + 1, 4, none⟩ (.string ⟨#[]⟩)).setCell ⟨w.heap.size + 1 + 1, 5, none⟩ (.slice q m c)) := ⟨_, rfl⟩
  obtain ⟨kk1, kk2, ko⟩ := two_six' HBY2.out HBZ2.out (by omega) (.int .i64 0) (.bool false) (.slice none 0 0) (.int .u64 0) (.string ⟨#[]⟩) (.slice none 0 0) (.int .i64 6) (.bool false) (.slice none 0 0) (.int .u64 0) (.string ⟨#[]⟩) (.slice q m c) W hW
  rw [← hW]
  have HKO := Lib.hid ko
  clear hW ko y0 y1 y2 y3 y4 y5 yg0 yg1 yg2 yg3 yg4 yg5 z0 z1 z2 z3 z4 z5 zg0 zg1 zg2 zg3 zg4 zg5
  obtain ⟨y0, y1, y2, y3, y4, y5, yg0, yg1, yg2, yg3, yg4, yg5⟩ := blk6 kk1
  obtain ⟨z0, z1, z2, z3, z4, z5, zg0, zg1, zg2, zg3, zg4, zg5⟩ := blk6 kk2
  clear kk1 kk2
  refine bodyPost_ret (v := .tuple #[.agg #[.int .i64 0, .bool false, .slice none 0 0, .int .u64 0, .string ⟨#[]⟩, .slice none 0 0], .agg #[.int .i64 6, .bool false, .slice none 0 0, .int .u64 0, .string ⟨#[]⟩, .slice q m c], .bool (idxX s0).isSome]) (by simp [results, Tryz.results22, go_sem, y0, y1, y2, y3, y4, y5, z0, z1, z2, z3, z4, z5]) rfl ?_
  refine ⟨q, m, c, rfl, fun k hk => ?_, HB1.out.trans (HKO.out.to_below (B := w.heap.size) HB1.out.size (fun q _ e => by rcases e with e | e <;> omega))⟩
  obtain ⟨qs, hr, hm⟩ := HQ.out k hk
  have hlt2 : w.heap.size + 1 + 1 < w1.heap.size := HBZ1.out.lt
  have hne6 : ∀ g, (Value.slice q m c).ownBlock = some g → ¬ (g = w.heap.size + 1 ∨ g = w.heap.size + 1 + 1) := fun g hg e => by
    have := (hr.1.lt g hg).1
    rcases e with e | e <;> omega
  exact ⟨qs, ⟨own_base (own_only hr.1 HKO.out hne6) HS1.out, fun p hp => RVal.apart (s := p.2) (hr.2 p hp) (fun g e _ => by
    rcases e with rfl | rfl
    · exact ⟨_, _, HBY2.out, by decide⟩
    · exact ⟨_, _, HBZ2.out, by decide⟩) HKO.out⟩, hm⟩
end Go.Proofs.YtmpfffcdpecadaaGreat
namespace Go.Proofs.YtmpfffcdpecadaaGreat
open Go.RowKit
attribute [local go_sem ↓] Go.wp_at_zero Go.wp_at_succ
/-- An element of a row: its six cells. -/
theorem RowR.at {w : World} {B : Nat} {a : Option Addr} {n c : Nat} {ps : List (Value × Sx)} (h : RowR w B (.slice a n c) ps) (i : Nat) (hi : i < ps.length) :
    ∃ x k neg aa m cc b tx, a = some x ∧ (ps[i]'hi).1 = pv k neg aa m cc b tx none 0 0 ∧ (w.cell? (x.add (i * 6)) = some (.int .i64 k) ∧ w.cell? ((x.add (i * 6)).add 1) = some (.bool neg) ∧ w.cell? ((x.add (i * 6)).add 2) = some (.slice aa m cc) ∧ w.cell? ((x.add (i * 6)).add 3) = some (.int .u64 b) ∧ w.cell? ((x.add (i * 6)).add 4) = some (.string tx) ∧ w.cell? ((x.add (i * 6)).add 5) = some (.slice none 0 0)) := by
  have hr := h.2 _ (List.getElem_mem hi)
  obtain ⟨neg, aa, m, cc, b, tx, he⟩ := hr.form
  rcases h.1.2 with ⟨hv, h0⟩ | ⟨g, cap, cur, hv, hb, hh, h1, h2, h3, _⟩
  · injection hv with e1 e2 e3
    omega
  · injection hv with e1 e2 e3
    subst e1
    have key : ∀ j u, (c6 (ps[i]'hi).1)[j]? = some u → w.cell? (((⟨g, 0, none⟩ : Addr).add (i * 6)).add j) = some u := fun j u hu => by
      have := h.1.cells (g := g) rfl (i * 6 + j) u (by rw [flat_six (fun p hp => (h.2 p hp).six) i j hi (by have := (List.getElem?_eq_some_iff.1 hu).1; rw [hr.six] at this; exact this)]; exact hu)
      rw [Addr.add_lit] at this ⊢
      rw [Addr.add_lit]
      simpa [Nat.add_assoc] using this
    rw [he] at key
    exact ⟨⟨g, 0, none⟩, _, neg, aa, m, cc, b, tx, rfl, he, (key 0 _ rfl), key 1 _ rfl, key 2 _ rfl, key 3 _ rfl, key 4 _ rfl, key 5 _ rfl⟩
set_option maxRecDepth 100000 in
set_option maxHeartbeats 8000000 in
theorem same_list (w : World) (B1 B2 : Nat) (ka kb : Option Addr) (n kc kd : Nat) (ps qs : List (Value × Sx)) (h1 : RowR w B1 (.slice ka n kc) ps) (h2 : RowR w B2 (.slice kb n kd) qs) (hn1 : ps.length = n) (hn2 : qs.length = n) (he : ps.map (·.2) = qs.map (·.2)) (hs : ∀ p ∈ ps, SmallX p.2) (hn : n ≤ 1000) :
    Calls Tryz.prog 23 #[.slice ka n kc, .slice kb n kd] w (SamePost w) := by
  have H1 := Lib.hid h1
  have H2 := Lib.hid h2
  have HE := Lib.hid he
  have HS := Lib.hid hs
  have HN1 := Lib.hid hn1
  have HN2 := Lib.hid hn2
  clear h1 h2 he hs hn1 hn2
  go_enter Tryz.func23, Tryz.ntmps23
  go_wp2_with fail
  go_loopg [5] n (fun k jv wr => ∃ i : Nat, jv = .int .i64 (i : Int) ∧ k + i ≤ n ∧ n ≤ k + i ∧ Hid (Below w.heap.size w wr))
  case atStart => exact ⟨0, rfl, by omega, by omega, Below.refl _ _⟩
  case round =>
    obtain ⟨i, rfl, hk1, hk2, hb⟩ := hrel
    by_cases hin : i < n
    · have hi1 : i < ps.length := by rw [HN1.out]; exact hin
      have hi2 : i < qs.length := by rw [HN2.out]; exact hin
      have hd : decide ((i : Int) < (n : Int)) = true := by simp; omega
      obtain ⟨x, k, neg, aa, m, cc, b, tx, rfl, hx, c0, c1, c2, c3, c4, c5⟩ := (H1.out.below hb.out).at i hi1
      obtain ⟨y, k', neg', aa', m', cc', b', tx', rfl, hy, d0, d1, d2, d3, d4, d5⟩ := (H2.out.below hb.out).at i hi2
      have HSAME := Lib.hid (fun W (h : Below wr.heap.size wr W) => by
        have r1 := ((H1.out.below hb.out).below h).2 _ (List.getElem_mem hi1)
        have r2 := ((H2.out.below hb.out).below h).2 _ (List.getElem_mem hi2)
        have hse : (ps[i]'hi1).2 = (qs[i]'hi2).2 := by
          have := congrArg (fun l => l[i]?) HE.out
          simpa [hi1, hi2] using this
        rw [← hse] at r2
        exact same_x _ _ _ W r1 r2 (HS.out _ (List.getElem_mem hi1)))
      rw [hx, hy] at HSAME
      unfold pv at HSAME
      have e1 : wr.cell? ⟨(x.add (i * 6)).block, (x.add (i * 6)).off + 1, none⟩ = some (.bool neg) := c1
      have e2 : wr.cell? ⟨(x.add (i * 6)).block, (x.add (i * 6)).off + 2, none⟩ = some (.slice aa m cc) := c2
      have e3 : wr.cell? ⟨(x.add (i * 6)).block, (x.add (i * 6)).off + 3, none⟩ = some (.int .u64 b) := c3
      have e4 : wr.cell? ⟨(x.add (i * 6)).block, (x.add (i * 6)).off + 4, none⟩ = some (.string tx) := c4
      have e5 : wr.cell? ⟨(x.add (i * 6)).block, (x.add (i * 6)).off + 5, none⟩ = some (.slice none 0 0) := c5
      have g1 : wr.cell? ⟨(y.add (i * 6)).block, (y.add (i * 6)).off + 1, none⟩ = some (.bool neg') := d1
      have g2 : wr.cell? ⟨(y.add (i * 6)).block, (y.add (i * 6)).off + 2, none⟩ = some (.slice aa' m' cc') := d2
      have g3 : wr.cell? ⟨(y.add (i * 6)).block, (y.add (i * 6)).off + 3, none⟩ = some (.int .u64 b') := d3
      have g4 : wr.cell? ⟨(y.add (i * 6)).block, (y.add (i * 6)).off + 4, none⟩ = some (.string tx') := d4
      have g5 : wr.cell? ⟨(y.add (i * 6)).block, (y.add (i * 6)).off + 5, none⟩ = some (.slice none 0 0) := d5
      have hi0 : (0 : Int) ≤ (i : Int) := by omega
      have hii : (i : Int) < (n : Int) := by omega
      clear c1 c2 c3 c4 c5 d1 d2 d3 d4 d5 hx hy hi1 hi2
      go_upto_region 6 with fail
      go_region_with (go_at_call 45; refine (HSAME.out _ ((Below.refl _ _).drew)).mono ?_; rintro e w2 ⟨rfl, hb2⟩; have HB2 := Lib.hid (hb.out.trans (((Below.refl wr.heap.size wr).drew.trans hb2).mono hb.out.size)))
      all_goals
        go_wp2_with fail
        go_roundg (n - (i + 1))
        case measure => omega
        case rel => exact ⟨i + 1, by go_num, by omega, by omega, HB2⟩
    · obtain rfl : i = n := by omega
      have HB9 := Lib.hid hb.out
      have hd : decide ((i : Int) < (i : Int)) = false := by simp
      clear hb
      go_wp2
      go_ret
      exact ⟨rfl, HB9.out⟩
end Go.Proofs.YtmpfffcdpecadaaGreat
namespace Go.Proofs.YtmpfffcdpecadaaGreat
open Go.RowKit
attribute [local go_sem ↓] Go.wp_at_zero Go.wp_at_succ
theorem insL_eqlen {α : Type} (l : List α) (j : Nat) (x : α) : (insL l j x).length = l.length + 1 := by
  unfold insL
  simp only [List.length_append, List.length_cons, List.length_take, List.length_drop]
  omega
theorem RowR.len {w : World} {B : Nat} {a : Option Addr} {n c : Nat} {ps : List (Value × Sx)} (h : RowR w B (.slice a n c) ps) : n = ps.length := by
  obtain ⟨_, _, h⟩ := h.form
  injection h
set_option maxRecDepth 100000 in
set_option maxHeartbeats 8000000 in
theorem does_ins (w : World) (B A ca : Nat) (ka : Option Addr) (kc : Nat) (ps : List (Value × Sx)) (s0 s1 : Sx) (n0 n1 : Bool) (a0 a1 : Option Addr) (m0 c0 m1 c1 : Nat) (b0 b1 : Int) (x0 x1 : ByteArray)
    (hR : RowR w B (.slice ka ps.length kc) ps) (hl : ps.length ≤ 100) (hA : A < w.heap.size) (h0 : SixAt w A 0 (kx s0) n0 a0 m0 c0 b0 x0) (h1 : SixAt w A 6 (kx s1) n1 a1 m1 c1 b1 x1)
    (v0 : XVal w 0 (pv (kx s0) n0 a0 m0 c0 b0 x0 none 0 0) s0) (v1 : XVal w 0 (pv (kx s1) n1 a1 m1 c1 b1 x1 none 0 0) s1)
    (B2 : Nat) (ra : Option Addr) (rn rc : Nat) (hno : idxX s0 = none → rn = 0) (hyes : ∀ k, idxX s0 = some k → ∃ qs, RowR w B2 (.slice ra rn rc) qs ∧ qs.map (·.2) = insL (ps.map (·.2)) (placeL ps.length k) s1) (hsm : ∀ p ∈ ps, SmallX p.2) (hs1 : SmallX s1) :
    Calls Tryz.prog 9 #[.slice ka ps.length kc, .string ⟨#[105, 110, 115, 101, 114, 116]⟩, .slice (some ⟨A, 0, none⟩) 2 ca, .slice ra rn rc, .bool (idxX s0).isSome] w (SamePost w) := by
  have HC := Lib.hid (spec_method w B A ca ka kc ps s0 s1 n0 n1 a0 a1 m0 c0 m1 c1 b0 b1 x0 x1 hR hl hA h0 h1 v0 v1)
  obtain ⟨n, hn⟩ : ∃ n, n = ps.length := ⟨_, rfl⟩
  have HN := Lib.hid hn
  rw [← hn] at HC ⊢
  unfold pv at HC
  cases hix : idxX s0 with
  | none =>
    obtain rfl := hno hix
    have HIX := Lib.hid hix
    clear hR hl hA h0 h1 v0 v1 hyes hno hsm hs1 hn hix
    go_enter Tryz.func9, Tryz.ntmps9
    go_wp2_with fail
    refine HC.out.mono ?_
    rintro e w2 ⟨q, m, c, rfl, hq, hb2⟩
    have HB2 := Lib.hid hb2
    rw [HIX.out]
    unfold pv
    clear hq hb2
    go_wp2
    go_ret
    exact ⟨by first | rfl | simp, (HB2.out.alloc HB2.out.size _).alloc (by have := HB2.out.size; simp; omega) _⟩
  | some k =>
    obtain ⟨qs, hqr, hqm⟩ := hyes k hix
    have HQ := Lib.hid hqr
    have HIX := Lib.hid hix
    have HQM := Lib.hid hqm
    have hlq : rn = ps.length + 1 := by
      have := congrArg List.length hqm
      rw [insL_eqlen] at this
      simp at this
      rw [hqr.len, this]
    have HLQ := Lib.hid hlq
    have HL := Lib.hid hl
    have HSM : Hid (∀ p ∈ qs, SmallX p.2) := fun p hp => by
      have : p.2 ∈ qs.map (·.2) := List.mem_map.2 ⟨p, hp, rfl⟩
      rw [hqm] at this
      rcases mem_insL this with h | h
      · rw [h]; exact hs1
      · obtain ⟨y, hy, he⟩ := List.mem_map.1 h
        rw [← he]; exact hsm y hy
    clear hR hl hA h0 h1 v0 v1 hyes hno hsm hs1 hn hix hqr hqm hlq
    go_enter Tryz.func9, Tryz.ntmps9
    go_wp2_with fail
    refine HC.out.mono ?_
    rintro e w2 ⟨q, m, c, rfl, hq, hb2⟩
    have HB2 := Lib.hid hb2
    obtain ⟨ys, hyr, hym⟩ := hq k HIX.out
    obtain rfl : m = rn := by
      have h1 := congrArg List.length hym
      rw [insL_eqlen] at h1
      simp at h1
      rw [hyr.len, h1, HLQ.out]
    have HY := Lib.hid hyr
    have HYM := Lib.hid hym
    have HQ2 := Lib.hid (HQ.out.below hb2)
    have HSL := Lib.hid (fun W (h : Below w2.heap.size w2 W) => same_list W B2 w.heap.size ra q m rc c qs ys (HQ2.out.below h) (HY.out.below h) HQ2.out.len.symm HY.out.len.symm (by rw [HQM.out, HYM.out, List.length_map]) HSM.out (by have := HLQ.out; have := HL.out; omega))
    rw [HIX.out]
    unfold pv
    clear hq hb2 hyr hym
    go_wp2_with fail
    refine (HSL.out _ (((Below.refl w2.heap.size w2).alloc (Nat.le_refl _) _).alloc (by simp) _)).mono ?_
    rintro e w3 ⟨rfl, hb3⟩
    have HB3 := Lib.hid ((HB2.out.alloc HB2.out.size (.cells #[.int .i64 0, .bool false, .slice none 0 0, .int .u64 0, .string ⟨#[]⟩, .slice none 0 0] 26)).alloc (by have := HB2.out.size; simp; omega) (.cells #[.int .i64 6, .bool false, .slice none 0 0, .int .u64 0, .string ⟨#[]⟩, .slice q m c] 26))
    have HB4 := Lib.hid (HB3.out.trans (hb3.mono HB3.out.size))
    clear hb3
    go_wp2
    go_ret
    exact ⟨by first | rfl | simp, HB4.out⟩
end Go.Proofs.YtmpfffcdpecadaaGreat
namespace Go.Proofs.YtmpfffcdpecadaaGreat
open Go.RowKit
attribute [local go_sem ↓] Go.wp_at_zero Go.wp_at_succ
theorem ListIn.len' {W : World} {a : Option Addr} {len cap : Nat} (h : ListIn W a len cap) : len ≤ maxLen := by
  rcases h with ⟨_, h0, _⟩ | ⟨x, _, h1, h2, _⟩
  · rw [h0]; exact Nat.zero_le _
  · exact Nat.le_trans h1 h2
theorem ListIn.below' {w W : World} {a : Option Addr} {len cap : Nat} (h : ListIn w a len cap) (hb : Below w.heap.size w W) : ListIn W a len cap := by
  rcases h with h | ⟨x, h0, h1, h2, h3⟩
  · exact .inl h
  · exact .inr ⟨x, h0, h1, h2, fun i hi => (h3 i hi).below hb⟩
theorem XVal.only {w w' : World} {B : Nat} {S : Nat → Prop} {v : Value} {s : Sx} (h : XVal w B v s) (k : Only S w w') (hs : ∀ g, B ≤ g → ¬ S g) : XVal w' B v s := by
  cases s with
  | int neg l =>
    obtain ⟨⟨vs, hv, ho, h1, h2⟩, h3⟩ := h
    exact ⟨⟨vs, hv, ho.only k hs, h1, h2⟩, h3⟩
  | _ => exact h
/-- A row of values whose texts lie behind a place. -/
def RowXB (w : World) (B : Nat) (v : Value) (ps : List (Value × Sx)) : Prop :=
  w.ownsRow B 26 6 v ps.length (ps.flatMap fun p => c6 p.1) ∧ ∀ p ∈ ps, RVal w p.1 p.2 ∧ SmallX p.2
def R3I (w wx : World) (v0 : Value) : Prop := ∃ (ps : List (Value × Sx)) (s0 s1 : Sx) (q : Option Addr) (kc : Nat) (g1 g2 : Bool) (aa1 aa2 : Option Addr) (nn1 cc1 nn2 cc2 : Nat) (bb1 bb2 : Int) (xx1 xx2 : ByteArray), v0 = .slice q ps.length kc ∧ ps.length ≤ 12 ∧ RowX wx (w.heap.size + 2) (.slice q ps.length kc) ps ∧
  Blk wx w.heap.size 26 #[.int .i64 (kx s0), .bool g1, .slice aa1 nn1 cc1, .int .u64 bb1, .string xx1, .slice none 0 0] ∧ Blk wx (w.heap.size + 1) 26 #[.int .i64 (kx s1), .bool g2, .slice aa2 nn2 cc2, .int .u64 bb2, .string xx2, .slice none 0 0] ∧
  XVal wx (w.heap.size + 2) (pv (kx s0) g1 aa1 nn1 cc1 bb1 xx1 none 0 0) s0 ∧ XVal wx (w.heap.size + 2) (pv (kx s1) g2 aa2 nn2 cc2 bb2 xx2 none 0 0) s1 ∧ Below w.heap.size w wx
theorem blk_six' {w : World} {g : Nat} {t : TypeId} {a b c d e f : Value} (u0 u1 u2 u3 u4 u5 : Value) (h : Blk w g t #[a, b, c, d, e, f]) : Blk ((((((w.setCell ⟨g, 0, none⟩ u0).setCell ⟨g, 1, none⟩ u1).setCell ⟨g, 2, none⟩ u2).setCell ⟨g, 3, none⟩ u3).setCell ⟨g, 4, none⟩ u4).setCell ⟨g, 5, none⟩ u5) g t #[u0, u1, u2, u3, u4, u5] :=
  (((((h.put 0 u0).put 1 u1).put 2 u2).put 3 u3).put 4 u4).put 5 u5
theorem XVal.apart {S : Nat → Prop} {w w' : World} {B : Nat} {v : Value} {s : Sx} (h : XVal w 0 v s) (hs : ∀ g, S g → g < w.heap.size → ∃ t cs, Blk w g t cs ∧ 5 ≠ t) (k : Only S w w') : XVal w' 0 v s := by
  cases s with
  | int neg l =>
    obtain ⟨⟨vs, hv, ho, h1, h2⟩, h3⟩ := h
    refine ⟨⟨vs, hv, ⟨own_only ho.1 k fun g hg e => ?_, ho.2⟩, h1, h2⟩, h3⟩
    obtain ⟨cs, hbk⟩ := Blk.of_own (g := g) (n := 0) (c := 0) ho.1 hg
    obtain ⟨t, cs', hk2, hne⟩ := hs g e hbk.lt
    have := hbk.symm.trans hk2
    injection this with h
    injection h with _ h
    exact hne h
  | _ => exact h
theorem r3i_end {w wd : World} {ps : List (Value × Sx)} {s0 s1 : Sx} {q : Option Addr} {kc : Nat} {e1k e2k : Int} {g1 g2 : Bool} {aa1 aa2 : Option Addr} {nn1 cc1 nn2 cc2 : Nat} {bb1 bb2 : Int} {xx1 xx2 : ByteArray} {d0 d1 d2 d3 d4 d5 f0 f1 f2 f3 f4 f5 : Value} {n : Nat}
    (hn : n = ps.length) (h12 : ps.length ≤ 12) (hr : RowX wd (w.heap.size + 2) (.slice q ps.length kc) ps) (e1 : e1k = kx s0) (e2 : e2k = kx s1)
    (b1 : Blk wd w.heap.size 26 #[d0, d1, d2, d3, d4, d5]) (b2 : Blk wd (w.heap.size + 1) 26 #[f0, f1, f2, f3, f4, f5])
    (p1 : XVal wd (w.heap.size + 2) (pv e1k g1 aa1 nn1 cc1 bb1 xx1 none 0 0) s0) (p2 : XVal wd (w.heap.size + 2) (pv e2k g2 aa2 nn2 cc2 bb2 xx2 none 0 0) s1) (hb : Below w.heap.size w wd) (W : World)
    (hW : W = ((((((((((((wd.setCell ⟨w.heap.size, 0, none⟩ (.int .i64 e1k)).setCell ⟨w.heap.size, 1, none⟩ (.bool g1)).setCell ⟨w.heap.size, 2, none⟩ (.slice aa1 nn1 cc1)).setCell ⟨w.heap.size, 3, none⟩ (.int .u64 bb1)).setCell ⟨w.heap.size, 4, none⟩ (.string xx1)).setCell ⟨w.heap.size, 5, none⟩ (.slice none 0 0)).setCell ⟨w.heap.size + 1, 0, none⟩ (.int .i64 e2k)).setCell ⟨w.heap.size + 1, 1, none⟩ (.bool g2)).setCell ⟨w.heap.size + 1, 2, none⟩ (.slice aa2 nn2 cc2)).setCell ⟨w.heap.size + 1, 3, none⟩ (.int .u64 bb2)).setCell ⟨w.heap.size + 1, 4, none⟩ (.string xx2)).setCell ⟨w.heap.size + 1, 5, none⟩ (.slice none 0 0))) : R3I w W (.slice q n kc) := by
  subst hn
  have o1 := six_set wd w.heap.size (.int .i64 e1k) (.bool g1) (.slice aa1 nn1 cc1) (.int .u64 bb1) (.string xx1) (.slice none 0 0)
  have B1 := blk_six' (.int .i64 e1k) (.bool g1) (.slice aa1 nn1 cc1) (.int .u64 bb1) (.string xx1) (.slice none 0 0) b1
  have B2 := b2.only o1 (by omega)
  generalize hX : ((((((wd.setCell ⟨w.heap.size, 0, none⟩ (.int .i64 e1k)).setCell ⟨w.heap.size, 1, none⟩ (.bool g1)).setCell ⟨w.heap.size, 2, none⟩ (.slice aa1 nn1 cc1)).setCell ⟨w.heap.size, 3, none⟩ (.int .u64 bb1)).setCell ⟨w.heap.size, 4, none⟩ (.string xx1)).setCell ⟨w.heap.size, 5, none⟩ (.slice none 0 0)) = wx at *
  have o2 := six_set wx (w.heap.size + 1) (.int .i64 e2k) (.bool g2) (.slice aa2 nn2 cc2) (.int .u64 bb2) (.string xx2) (.slice none 0 0)
  have B3 := blk_six' (.int .i64 e2k) (.bool g2) (.slice aa2 nn2 cc2) (.int .u64 bb2) (.string xx2) (.slice none 0 0) B2
  have B4 := B1.only o2 (by omega)
  subst hW e1 e2
  refine ⟨ps, s0, s1, q, kc, g1, g2, aa1, aa2, nn1, cc1, nn2, cc2, bb1, bb2, xx1, xx2, rfl, h12, ⟨own_only (own_only hr.1 o1 fun g hg e => ?_) o2 fun g hg e => ?_, fun p hp => ?_⟩, B4, B3, (p1.only o1 (fun g hg e => by omega)).only o2 (fun g hg e => by omega), (p2.only o1 (fun g hg e => by omega)).only o2 (fun g hg e => by omega), ?_⟩
  · have := (hr.1.lt g hg).1; omega
  · have := (hr.1.lt g hg).1; omega
  · refine XVal.apart (B := 0) (XVal.apart (B := 0) (hr.2 p hp) (fun g e _ => ⟨_, _, by subst e; exact b1, by decide⟩) o1) (fun g e _ => ⟨_, _, by subst e; exact B2, by decide⟩) o2
  · exact (hb.trans (o1.to_below hb.size (fun k _ e => by omega))).trans (o2.to_below (Nat.le_trans hb.size o1.size) (fun k _ e => by omega))
theorem does_arm {wc W0 : World} {ps : List (Value × Sx)} {s0 s1 : Sx} {q : Option Addr} {n kc B : Nat} {e1k e2k : Int} {g1 g2 : Bool} {aa1 aa2 : Option Addr} {nn1 cc1 nn2 cc2 G : Nat} {bb1 bb2 : Int} {xx1 xx2 : ByteArray}
    (hn : n = ps.length) (h12 : ps.length ≤ 12) (hr : RowX wc B (.slice q ps.length kc) ps) (e1 : e1k = kx s0) (e2 : e2k = kx s1) (p1 : XVal wc 0 (pv e1k g1 aa1 nn1 cc1 bb1 xx1 none 0 0) s0) (p2 : XVal wc 0 (pv e2k g2 aa2 nn2 cc2 bb2 xx2 none 0 0) s1) (hb : Below wc.heap.size wc W0)
    (hk : Blk W0 G 26 #[.int .i64 e1k, .bool g1, .slice aa1 nn1 cc1, .int .u64 bb1, .string xx1, .slice none 0 0, .int .i64 e2k, .bool g2, .slice aa2 nn2 cc2, .int .u64 bb2, .string xx2, .slice none 0 0])
    (B2 : Nat) (ra : Option Addr) (rn rc : Nat) (hno : idxX s0 = none → rn = 0) (hyes : ∀ k, idxX s0 = some k → ∃ qs, RowR W0 B2 (.slice ra rn rc) qs ∧ qs.map (·.2) = insL (ps.map (·.2)) (placeL ps.length k) s1) (o : Bool) (ho : o = (idxX s0).isSome) :
    Calls Tryz.prog 9 #[.slice q n kc, .string ⟨#[105, 110, 115, 101, 114, 116]⟩, .slice (some ⟨G, 0, none⟩) 2 2, .slice ra rn rc, .bool o] W0 (SamePost W0) := by
  subst hn e1 e2 ho
  refine does_ins W0 B G 2 q kc ps s0 s1 g1 g2 aa1 aa2 nn1 cc1 nn2 cc2 bb1 bb2 xx1 xx2 (hr.read.below hb) (by omega) hk.lt ⟨(hk.cell 0).trans rfl, (hk.cell 1).trans rfl, (hk.cell 2).trans rfl, (hk.cell 3).trans rfl, (hk.cell 4).trans rfl, (hk.cell 5).trans rfl⟩ ⟨(hk.cell 6).trans rfl, (hk.cell 7).trans rfl, (hk.cell 8).trans rfl, (hk.cell 9).trans rfl, (hk.cell 10).trans rfl, (hk.cell 11).trans rfl⟩ (p1.below hb) (p2.below hb) B2 ra rn rc hno hyes (fun p hp => (hr.2 p hp).small) p2.small
set_option maxRecDepth 100000 in
set_option maxHeartbeats 20000000 in
theorem ins_law (a : Option Addr) (len cap : Nat) (k1 : Int) (n1 : Bool) (a1 : Option Addr) (m1 c1 : Nat) (b1 : Int) (x1 : ByteArray) (ka1 : Option Addr) (kn1 kc1 : Nat) (l1 : List Nat) (k2 : Int) (n2 : Bool) (a2 : Option Addr) (m2 c2 : Nat) (b2 : Int) (x2 : ByteArray) (ka2 : Option Addr) (kn2 kc2 : Nat) (l2 : List Nat) (w : World)
    (hl : ListIn w a len cap) (hv1 : ValIn3 w a1 m1 c1 b1 x1 l1) (hv2 : ValIn3 w a2 m2 c2 b2 x2 l2) :
    Calls Tryz.prog 3 #[.slice a len cap, pv k1 n1 a1 m1 c1 b1 x1 ka1 kn1 kc1, pv k2 n2 a2 m2 c2 b2 x2 ka2 kn2 kc2] w fun e w' => e = .returned (.bool true) ∧ Below w.heap.size w w' := by
  have hm := hl.len'
  unfold maxLen at hm
  have HB0 := Lib.hid (((Below.refl w.heap.size w).alloc (Nat.le_refl _) (.cells #[.int .i64 k1, .bool n1, .slice a1 m1 c1, .int .u64 b1, .string x1, .slice ka1 kn1 kc1] 26)).alloc (by simp) (.cells #[.int .i64 k2, .bool n2, .slice a2 m2 c2, .int .u64 b2, .string x2, .slice ka2 kn2 kc2] 26))
  unfold pv
  by_cases hbig : 2147483647 < len
  · have d1 : decide ((2147483647 : Int) < (len : Int)) = true := by simp; omega
    clear hl hv1 hv2 hm
    go_enter Tryz.func3, Tryz.ntmps3
    go_wp2
    go_ret
    exact ⟨rfl, HB0.out⟩
  · have d1 : decide ((2147483647 : Int) < (len : Int)) = false := by simp; omega
    obtain ⟨q1, hq1⟩ : ∃ q, q = decide (m1 ≤ 2147483647 ∧ x1.size ≤ 2147483647 ∧ kn1 ≤ 2147483647) := ⟨_, rfl⟩
    obtain ⟨q2, hq2⟩ : ∃ q, q = decide (m2 ≤ 2147483647 ∧ x2.size ≤ 2147483647 ∧ kn2 ≤ 2147483647) := ⟨_, rfl⟩
    have HF1 := Lib.hid (fun W => fits_any k1 n1 a1 m1 c1 b1 x1 ka1 kn1 kc1 W q1 hq1)
    have HF2 := Lib.hid (fun W => fits_any k2 n2 a2 m2 c2 b2 x2 ka2 kn2 kc2 W q2 hq2)
    have HL := Lib.hid (fun W (h : Below w.heap.size w W) => list_of a len cap W (hl.below' h))
    have HC1 : Hid (∀ W, Below w.heap.size w W → Calls Tryz.prog 7 #[pv k1 n1 a1 m1 c1 b1 x1 ka1 kn1 kc1, .int .i64 0] W (CleanPost W)) := fun W h => by
      obtain ⟨⟨h1, h2⟩, h3, h4⟩ := hv1
      obtain ⟨bn, rfl⟩ := Int.eq_ofNat_of_zero_le h3
      exact clean_any k1 n1 a1 m1 c1 bn x1 ka1 kn1 kc1 l1 W (h1.old h) h2 h4
    have HC2 : Hid (∀ W, Below w.heap.size w W → Calls Tryz.prog 7 #[pv k2 n2 a2 m2 c2 b2 x2 ka2 kn2 kc2, .int .i64 0] W (CleanPost W)) := fun W h => by
      obtain ⟨⟨h1, h2⟩, h3, h4⟩ := hv2
      obtain ⟨bn, rfl⟩ := Int.eq_ofNat_of_zero_le h3
      exact clean_any k2 n2 a2 m2 c2 bn x2 ka2 kn2 kc2 l2 W (h1.old h) h2 h4
    unfold pv at HF1 HF2 HC1 HC2
    have HK1 := Lib.hid ((Blk.new w 26 #[.int .i64 k1, .bool n1, .slice a1 m1 c1, .int .u64 b1, .string x1, .slice ka1 kn1 kc1]).alloc (.cells #[.int .i64 k2, .bool n2, .slice a2 m2 c2, .int .u64 b2, .string x2, .slice ka2 kn2 kc2] 26))
    have HK2 := Lib.hid (Blk.new_at (w.alloc (.cells #[.int .i64 k1, .bool n1, .slice a1 m1 c1, .int .u64 b1, .string x1, .slice ka1 kn1 kc1] 26)) 26 #[.int .i64 k2, .bool n2, .slice a2 m2 c2, .int .u64 b2, .string x2, .slice ka2 kn2 kc2] (n := w.heap.size + 1) (by simp))
    clear hq1 hq2 hl hv1 hv2 hm hbig
    go_enter Tryz.func3, Tryz.ntmps3
    go_wp2_with fail
    refine (HF1.out _).mono ?_
    rintro e w1 ⟨rfl, hb1⟩
    have HB1 := Lib.hid (HB0.out.trans (hb1.mono HB0.out.size))
    have HK1a := Lib.hid (HK1.out.below hb1 HK1.out.lt)
    have HK2a := Lib.hid (HK2.out.below hb1 HK2.out.lt)
    obtain ⟨e0, e1, e2, e3, e4, e5, _, _, _, _, _, _⟩ := blk6 (HK2.out.below hb1 HK2.out.lt)
    clear hb1
    cases q1
    · go_wp2
      go_ret
      exact ⟨rfl, HB1.out⟩
    · go_wp2_with fail
      refine (HF2.out _).mono ?_
      rintro e w2 ⟨rfl, hb2⟩
      have HB2 := Lib.hid (HB1.out.trans (hb2.mono HB1.out.size))
      have HK1b := Lib.hid (HK1a.out.below hb2 HK1a.out.lt)
      have HK2b := Lib.hid (HK2a.out.below hb2 HK2a.out.lt)
      clear hb2
      cases q2
      · go_wp2
        go_ret
        exact ⟨rfl, HB2.out⟩
      · clear e0 e1 e2 e3 e4 e5
        have HCELL : Hid (∀ W, Below w2.heap.size w2 W → (W.cell? ⟨w.heap.size, 0, none⟩ = some (.int .i64 k1) ∧ W.cell? ⟨w.heap.size, 1, none⟩ = some (.bool n1) ∧ W.cell? ⟨w.heap.size, 2, none⟩ = some (.slice a1 m1 c1) ∧ W.cell? ⟨w.heap.size, 3, none⟩ = some (.int .u64 b1) ∧ W.cell? ⟨w.heap.size, 4, none⟩ = some (.string x1) ∧ W.cell? ⟨w.heap.size, 5, none⟩ = some (.slice ka1 kn1 kc1)) ∧ W.cell? ⟨w.heap.size + 1, 0, none⟩ = some (.int .i64 k2) ∧ W.cell? ⟨w.heap.size + 1, 1, none⟩ = some (.bool n2) ∧ W.cell? ⟨w.heap.size + 1, 2, none⟩ = some (.slice a2 m2 c2) ∧ W.cell? ⟨w.heap.size + 1, 3, none⟩ = some (.int .u64 b2) ∧ W.cell? ⟨w.heap.size + 1, 4, none⟩ = some (.string x2) ∧ W.cell? ⟨w.heap.size + 1, 5, none⟩ = some (.slice ka2 kn2 kc2)) := fun W hW => by
          have i1 := HK1b.out.below hW HK1b.out.lt
          have i2 := HK2b.out.below hW HK2b.out.lt
          exact ⟨⟨(i1.cell 0).trans rfl, (i1.cell 1).trans rfl, (i1.cell 2).trans rfl, (i1.cell 3).trans rfl, (i1.cell 4).trans rfl, (i1.cell 5).trans rfl⟩, (i2.cell 0).trans rfl, (i2.cell 1).trans rfl, (i2.cell 2).trans rfl, (i2.cell 3).trans rfl, (i2.cell 4).trans rfl, (i2.cell 5).trans rfl⟩
        have C0 : Hid (Below w2.heap.size w2 w2.drew) := (Below.refl w2.heap.size w2).drew
        have tok1 : True := trivial
        have tok2 : True := trivial
        have tok3 : True := trivial
        have hsz2 : w.heap.size + 1 < w2.heap.size := HK2b.out.lt
        have hsz1 : w.heap.size < w2.heap.size := HK1b.out.lt
        obtain ⟨⟨i0, i1, i2, i3, i4, i5⟩, j0, j1, j2, j3, j4, j5⟩ := HCELL.out w2 (Below.refl _ _)
        go_upto_region 3 with fail
        go_cut [0] (fun v0 wx => Hid (R3I w wx v0))
        case first =>
          go_region_with (first
            | (go_at_call 6; have _t := tok1; refine (HL.out _ (HB2.out.trans (C0.out.mono HB2.out.size))).mono ?_; rintro e wa ⟨va, pa, rfl, hra, hpa, hba⟩; have D1 := Lib.hid (C0.out.trans (hba.mono C0.out.size)); have HR1 : Hid (RowX wa (w.heap.size + 2) va pa) := ⟨own_base hra.1 (Nat.le_trans hsz2 C0.out.size), hra.2⟩; obtain ⟨aq, cq, rfl⟩ := hra.form; have HPA := Lib.hid hpa; obtain ⟨nq, hnq⟩ : ∃ n, n = pa.length := ⟨_, rfl⟩; have HNQ := Lib.hid hnq; rw [← hnq]; obtain ⟨⟨ia0, ia1, ia2, ia3, ia4, ia5⟩, ja0, ja1, ja2, ja3, ja4, ja5⟩ := HCELL.out _ D1.out; clear _t tok1 hba hra hpa hnq)
            | (go_at_call 7; have _t := tok2; refine (HC1.out _ (HB2.out.trans (D1.out.mono HB2.out.size))).mono ?_; rintro e wb ⟨vb, sb, rfl, hvb, hbb⟩; have D2 := Lib.hid (D1.out.trans (hbb.mono D1.out.size)); have HV1 := Lib.hid (hvb.base (Nat.le_trans hsz2 D1.out.size)); have HR2 := Lib.hid (HR1.out.below hbb); obtain ⟨ng1, ad1, le1, ca1, bi1, tx1, hpv1⟩ := (hvb.base (Nat.zero_le _)).form; obtain ⟨kk1, hkk1⟩ : ∃ k, k = kx sb := ⟨_, rfl⟩; rw [← hkk1] at hpv1; unfold pv at hpv1; subst hpv1; have HKK1 := Lib.hid hkk1; obtain ⟨⟨ib0, ib1, ib2, ib3, ib4, ib5⟩, jb0, jb1, jb2, jb3, jb4, jb5⟩ := HCELL.out _ D2.out; clear _t tok2 hvb hbb hkk1)
            | (go_at_call 7; have _t := tok3; refine (HC2.out _ (HB2.out.trans (D2.out.mono HB2.out.size))).mono ?_; rintro e wc ⟨vc, sc, rfl, hvc, hbc⟩; have D3 := Lib.hid (D2.out.trans (hbc.mono D2.out.size)); have HV2 := Lib.hid (hvc.base (Nat.le_trans hsz2 D2.out.size)); have HV1d := Lib.hid (HV1.out.below hbc); have HR3 := Lib.hid (HR2.out.below hbc); obtain ⟨ng2, ad2, le2, ca2, bi2, tx2, hpv2⟩ := (hvc.base (Nat.zero_le _)).form; obtain ⟨kk2, hkk2⟩ : ∃ k, k = kx sc := ⟨_, rfl⟩; rw [← hkk2] at hpv2; unfold pv at hpv2; subst hpv2; have HKK2 := Lib.hid hkk2; clear _t tok3 hvc hbc hkk2; obtain ⟨y0, y1, y2, y3, y4, y5, z0, z1, z2, z3, z4, z5⟩ := blk6 (HK1b.out.below D3.out HK1b.out.lt); obtain ⟨yy0, yy1, yy2, yy3, yy4, yy5, zz0, zz1, zz2, zz3, zz4, zz5⟩ := blk6 (HK2b.out.below D3.out HK2b.out.lt)))
          all_goals
            go_wp2_with fail
            go_meet
            exact Lib.hid (r3i_end HNQ.out HPA.out HR3.out HKK1.out HKK2.out (HK1b.out.below D3.out HK1b.out.lt) (HK2b.out.below D3.out HK2b.out.lt) HV1d.out HV2.out (HB2.out.trans (D3.out.mono HB2.out.size)) _ rfl)
        case rest =>
          clear HCELL C0 HF1 HF2 HL HC1 HC2 HK1 HK2 HK1a HK2a HK1b HK2b HB0 HB1 HB2
          obtain ⟨ps, s0, s1, q, kc, g1, g2, aa1, aa2, nn1, cc1, nn2, cc2, bb1, bb2, xx1, xx2, rfl, h12, hr, hk1, hk2, hp1, hp2, hbw⟩ := hcut.out
          obtain ⟨e1k, he1⟩ : ∃ k, k = kx s0 := ⟨_, rfl⟩
          obtain ⟨e2k, he2⟩ : ∃ k, k = kx s1 := ⟨_, rfl⟩
          have HI := Lib.hid (impl_insert _ _ _ _ s0 s1 ps wc hr (by omega) (hp1.base (Nat.zero_le _)) (hp2.base (Nat.zero_le _)))
          rw [← he1] at hk1 hp1
          rw [← he2] at hk2 hp2
          rw [← he1, ← he2] at HI
          obtain ⟨n, hn⟩ : ∃ n, n = ps.length := ⟨_, rfl⟩
          rw [← hn] at HI ⊢
          unfold pv at HI
          have HN := Lib.hid hn
          have HR := Lib.hid hr
          have H12 := Lib.hid h12
          have HB1 := Lib.hid hk1
          have HB2 := Lib.hid hk2
          have HP1 := Lib.hid hp1
          have HP2 := Lib.hid hp2
          have HE1 := Lib.hid he1
          have HE2 := Lib.hid he2
          have HW := Lib.hid hbw
          have HPL : Hid (∀ W, Below wc.heap.size wc W → (W.cell? ⟨w.heap.size, 0, none⟩ = some (.int .i64 e1k) ∧ W.cell? ⟨w.heap.size, 1, none⟩ = some (.bool g1) ∧ W.cell? ⟨w.heap.size, 2, none⟩ = some (.slice aa1 nn1 cc1) ∧ W.cell? ⟨w.heap.size, 3, none⟩ = some (.int .u64 bb1) ∧ W.cell? ⟨w.heap.size, 4, none⟩ = some (.string xx1) ∧ W.cell? ⟨w.heap.size, 5, none⟩ = some (.slice none 0 0)) ∧ W.cell? ⟨w.heap.size + 1, 0, none⟩ = some (.int .i64 e2k) ∧ W.cell? ⟨w.heap.size + 1, 1, none⟩ = some (.bool g2) ∧ W.cell? ⟨w.heap.size + 1, 2, none⟩ = some (.slice aa2 nn2 cc2) ∧ W.cell? ⟨w.heap.size + 1, 3, none⟩ = some (.int .u64 bb2) ∧ W.cell? ⟨w.heap.size + 1, 4, none⟩ = some (.string xx2) ∧ W.cell? ⟨w.heap.size + 1, 5, none⟩ = some (.slice none 0 0)) := fun W hW => by
            have i1 := HB1.out.below hW HB1.out.lt
            have i2 := HB2.out.below hW HB2.out.lt
            exact ⟨⟨(i1.cell 0).trans rfl, (i1.cell 1).trans rfl, (i1.cell 2).trans rfl, (i1.cell 3).trans rfl, (i1.cell 4).trans rfl, (i1.cell 5).trans rfl⟩, (i2.cell 0).trans rfl, (i2.cell 1).trans rfl, (i2.cell 2).trans rfl, (i2.cell 3).trans rfl, (i2.cell 4).trans rfl, (i2.cell 5).trans rfl⟩
          obtain ⟨⟨i0, i1, i2, i3, i4, i5⟩, j0, j1, j2, j3, j4, j5⟩ := HPL.out wc (Below.refl _ _)
          clear hr hk1 hk2 hp1 hp2 he1 he2 hbw hcut hn h12
          go_wp2_with fail
          refine HI.out.mono ?_
          rintro e w3 ⟨hh, hb3⟩
          have HB3 := Lib.hid hb3
          obtain ⟨⟨i0, i1, i2, i3, i4, i5⟩, j0, j1, j2, j3, j4, j5⟩ := HPL.out w3 hb3
          clear hb3
          rcases hh with ⟨hix, rfl⟩ | ⟨k, u, qs, hix, rfl, hqr, hqm⟩
          · have HIX := Lib.hid hix
            have HD := Lib.hid (fun W0 (h : Below wc.heap.size wc W0) (G : Nat) hk => does_arm (G := G) (kc := kc) HN.out H12.out HR.out HE1.out HE2.out (HP1.out.base (Nat.zero_le _)) (HP2.out.base (Nat.zero_le _)) h hk 0 none 0 0 (fun _ => rfl) (fun k hk => by rw [HIX.out] at hk; cases hk) false (by rw [HIX.out]; rfl))
            clear hix
            go_wp2_with fail
            refine (HD.out _ ?_ _ ?_).mono ?_
            · exact HB3.out.alloc HB3.out.size _
            · exact Blk.new _ _ _
            rintro e w4 ⟨rfl, hb4⟩
            have HB4 := Lib.hid (HW.out.trans ((((HB3.out.alloc HB3.out.size (.cells #[.int .i64 e1k, .bool g1, .slice aa1 nn1 cc1, .int .u64 bb1, .string xx1, .slice none 0 0, .int .i64 e2k, .bool g2, .slice aa2 nn2 cc2, .int .u64 bb2, .string xx2, .slice none 0 0] 26)).trans (hb4.mono (Nat.le_trans HB3.out.size (by simp))))).mono HW.out.size))
            clear hb4
            go_wp2
            go_ret
            exact ⟨rfl, HB4.out⟩
          · obtain ⟨ra, rc, rfl⟩ := hqr.form
            obtain ⟨rn, hrn⟩ : ∃ n, n = qs.length := ⟨_, rfl⟩
            have HIX := Lib.hid hix
            rw [← hrn] at hqr
            have HQR := Lib.hid hqr
            have HQM := Lib.hid hqm
            have HD := Lib.hid (fun W0 (h : Below wc.heap.size wc W0) (h3 : Below w3.heap.size w3 W0) (G : Nat) hk => does_arm (G := G) (kc := kc) HN.out H12.out HR.out HE1.out HE2.out (HP1.out.base (Nat.zero_le _)) (HP2.out.base (Nat.zero_le _)) h hk _ ra rn rc (fun h => by rw [HIX.out] at h; cases h) (fun k' hk' => by rw [HIX.out] at hk'; injection hk' with hk'; subst hk'; exact ⟨qs, HQR.out.below h3, by rw [HQM.out, List.length_map]⟩) true (by rw [HIX.out]; rfl))
            rw [← hrn]
            clear hix hqr hqm hrn
            go_wp2_with fail
            refine (HD.out _ ?_ ?_ _ ?_).mono ?_
            · exact HB3.out.alloc HB3.out.size _
            · exact (Below.refl _ _).alloc (Nat.le_refl _) _
            · exact Blk.new _ _ _
            rintro e w4 ⟨rfl, hb4⟩
            have HB4 := Lib.hid (HW.out.trans ((((HB3.out.alloc HB3.out.size (.cells #[.int .i64 e1k, .bool g1, .slice aa1 nn1 cc1, .int .u64 bb1, .string xx1, .slice none 0 0, .int .i64 e2k, .bool g2, .slice aa2 nn2 cc2, .int .u64 bb2, .string xx2, .slice none 0 0] 26)).trans (hb4.mono (Nat.le_trans HB3.out.size (by simp))))).mono HW.out.size))
            clear hb4
            go_wp2
            go_ret
            exact ⟨rfl, HB4.out⟩
end Go.Proofs.YtmpfffcdpecadaaGreat
