/- Steps that are handed in, opened: seventeen cells each, with two values. -/
import Derived.Test.YteibkaonofkcbaaGreatTupJoinJ
import Derived.Test.YteibkaonofkcbaaGreatOnlyT
set_option linter.unusedSimpArgs false
set_option linter.unusedVariables false
namespace Go.Proofs.YteibkaonofkcbaaGreat
open Go.RowKit Go.ChangeShapes Go.WideShapes Go.Deep
set_option maxRecDepth 100000 in
theorem val_at {H : Type} {enc : TypeId × Value → H} {w : World} {base : Nat} {held : Bool} {fuel : Nat} {cs' : List Value} {x : DataW H × List MemPlace} (p : Addr)
    (hcl : cs'.length = 6) (hat : ∀ j, j < 6 → w.cell? (p.add j) = cs'[j]?) (ht' : DataW.trod enc Tryz.prog w base (fun _ => true) held fuel 33 cs' = some x) : ValAt w p := by
  have ht : Tryz.prog.underlying 22 = some (.slice 33) := Tryz.underlying22
  have hs : Tryz.prog.underlying 33 = some (.struct (Tryz.prog.fieldsOf 33)) := by kernel_rfl
  have hC : Tryz.prog.cellsOf 33 = 6 := by kernel_rfl
  have hm : (Tryz.prog.fieldsOf 33).map (fun f => (f.type, f.offset, Tryz.prog.cellsOf f.type)) = #[(3, 0, 1), (4, 1, 1), (30, 2, 1), (31, 3, 1), (9, 4, 1), (22, 5, 1)] := by kernel_rfl
  have hsz : (Tryz.prog.fieldsOf 33).size = 6 := by rw [← Array.size_map (f := fun f : Field => (f.type, f.offset, Tryz.prog.cellsOf f.type)), hm]; rfl
  have hF : ∀ (j : Nat) (p : TypeId × Nat × Nat), (#[(3, 0, 1), (4, 1, 1), (30, 2, 1), (31, 3, 1), (9, 4, 1), (22, 5, 1)] : Array (TypeId × Nat × Nat))[j]? = some p → ∃ f : Field, (Tryz.prog.fieldsOf 33)[j]? = some f ∧ f.type = p.1 ∧ f.offset = p.2.1 ∧ Tryz.prog.cellsOf f.type = p.2.2 := by
    intro j p hp
    rw [← hm, Array.getElem?_map] at hp
    obtain ⟨f, h1, rfl⟩ := Option.map_eq_some_iff.1 hp
    exact ⟨f, h1, rfl, rfl, rfl⟩
  have u0 : Tryz.prog.underlying 3 = some (.int .i64) := by kernel_rfl
  have u1 : Tryz.prog.underlying 4 = some .bool := by kernel_rfl
  have u2 : Tryz.prog.underlying 30 = some (.slice 5) := by kernel_rfl
  have u2e : Tryz.prog.underlying 5 = some (.int .u8) := by kernel_rfl
  have u3 : Tryz.prog.underlying 31 = some (.int .u64) := by kernel_rfl
  have u4 : Tryz.prog.underlying 9 = some .string := by kernel_rfl
  obtain ⟨ys, n', _, _, _, hyl, hg⟩ := DataW.trod_struct hs ht'
  rw [hsz] at hyl
  match cs', hcl with
  | [c0, c1, c2, c3, c4, c5], _ =>
    match ys, hyl with
    | [y0, y1, y2, y3, y4, y5], _ =>
      obtain ⟨f0, g0, a0, b0, d0⟩ := hF 0 _ rfl
      obtain ⟨f1, g1, a1, b1, d1⟩ := hF 1 _ rfl
      obtain ⟨f2, g2, a2, b2, d2⟩ := hF 2 _ rfl
      obtain ⟨f3, g3, a3, b3, d3⟩ := hF 3 _ rfl
      obtain ⟨f4, g4, a4, b4, d4⟩ := hF 4 _ rfl
      obtain ⟨f5, g5, a5, b5, d5⟩ := hF 5 _ rfl
      have k0 := hg 0 f0 g0
      have k1 := hg 1 f1 g1
      have k2 := hg 2 f2 g2
      have k3 := hg 3 f3 g3
      have k4 := hg 4 f4 g4
      have k5 := hg 5 f5 g5
      rw [d0, b0, a0] at k0
      rw [d1, b1, a1] at k1
      rw [d2, b2, a2] at k2
      rw [d3, b3, a3] at k3
      rw [d4, b4, a4] at k4
      rw [d5, b5, a5] at k5
      obtain ⟨z0, e0, _, q0⟩ := DataW.trod_int u0 (x := y0) (cs := [c0]) k0
      obtain ⟨z1, e1, _⟩ := DataW.trod_bool u1 (x := y1) (cs := [c1]) k1
      obtain ⟨z3, e3, _, q3⟩ := DataW.trod_int u3 (x := y3) (cs := [c3]) k3
      obtain ⟨z4, e4, _, q4⟩ := DataW.trod_string u4 (x := y4) (cs := [c4]) k4
      obtain rfl := (List.cons.inj e0).1
      obtain rfl := (List.cons.inj e1).1
      obtain rfl := (List.cons.inj e3).1
      obtain rfl := (List.cons.inj e4).1
      have hkid : ∃ ka kn kc, c5 = .slice ka kn kc := by
        rcases open_slice (x := y5) (cs := [c5]) ht k5 with ⟨e, _⟩ | ⟨a, len, cap, _, _, _, _, e, _⟩
        · exact ⟨_, _, _, (List.cons.inj e).1⟩
        · exact ⟨_, _, _, (List.cons.inj e).1⟩
      obtain ⟨ka, kn, kc, rfl⟩ := hkid
      have hmag : ∃ a len cap zs, c2 = .slice a len cap ∧ IsRow .u8 w a len cap zs := by
        rcases open_ints (x := y2) (cs := [c2]) u2 u2e (by kernel_rfl) k2 with ⟨hcs, _⟩ | ⟨x, l, c, zs, hcs, _, hl, hm, hz, _, hcell, hwz⟩
        · exact ⟨none, 0, 0, [], (List.cons.inj hcs).1, .inl ⟨rfl, rfl, rfl, rfl⟩⟩
        · exact ⟨some x, l, c, zs, (List.cons.inj hcs).1, .inr ⟨_, rfl, hl, hm, by simpa using hz, hcell, hwz⟩⟩
      obtain ⟨aa, ll, cc, zs, rfl, hrow⟩ := hmag
      have w0 := hat 0 (by omega)
      have w1 := hat 1 (by omega)
      have w2 := hat 2 (by omega)
      have w3 := hat 3 (by omega)
      have w4 := hat 4 (by omega)
      have w5 := hat 5 (by omega)
      simp [Lit.wf, IntKind.min, IntKind.max, IntKind.signed, IntKind.bits] at q0 q3
      refine ⟨z0, z1, aa, ll, cc, z3.toNat, z4, ka, kn, kc, _, ⟨?_, by simpa using w1, by simpa using w2, ?_, by simpa using w4, by simpa using w5⟩, bsl_of_row hrow, q4, by omega, by omega⟩
      · have e : p.add 0 = p := rfl
        rw [e] at w0
        simpa using w0
      · have e : ((z3.toNat : Nat) : Int) = z3 := by omega
        rw [e]
        simpa using w3

set_option maxRecDepth 100000 in
theorem open_steps {H : Type} {enc : TypeId × Value → H} {w : World} {base : Nat} {held : Bool} {fuel : Nat} {cs : List Value} {x : DataW H × List MemPlace}
    (h : DataW.trod enc Tryz.prog w base (fun _ => true) held fuel 23 cs = some x) : ∃ a len cap, cs = [.slice a len cap] ∧ StepsIn w a len cap := by
  have ht : Tryz.prog.underlying 23 = some (.slice 35) := Tryz.underlying23
  have hs : Tryz.prog.underlying 35 = some (.struct (Tryz.prog.fieldsOf 35)) := by kernel_rfl
  have hC : Tryz.prog.cellsOf 35 = 17 := by kernel_rfl
  have hm : (Tryz.prog.fieldsOf 35).map (fun f => (f.type, f.offset, Tryz.prog.cellsOf f.type)) = #[(3, 0, 1), (3, 1, 1), (3, 2, 1), (3, 3, 1), (33, 4, 6), (33, 10, 6), (22, 16, 1)] := by kernel_rfl
  have hsz : (Tryz.prog.fieldsOf 35).size = 7 := by rw [← Array.size_map (f := fun f : Field => (f.type, f.offset, Tryz.prog.cellsOf f.type)), hm]; rfl
  have hF : ∀ (j : Nat) (p : TypeId × Nat × Nat), (#[(3, 0, 1), (3, 1, 1), (3, 2, 1), (3, 3, 1), (33, 4, 6), (33, 10, 6), (22, 16, 1)] : Array (TypeId × Nat × Nat))[j]? = some p → ∃ f : Field, (Tryz.prog.fieldsOf 35)[j]? = some f ∧ f.type = p.1 ∧ f.offset = p.2.1 ∧ Tryz.prog.cellsOf f.type = p.2.2 := by
    intro j p hp
    rw [← hm, Array.getElem?_map] at hp
    obtain ⟨f, h1, rfl⟩ := Option.map_eq_some_iff.1 hp
    exact ⟨f, h1, rfl, rfl, rfl⟩
  have u0 : Tryz.prog.underlying 3 = some (.int .i64) := by kernel_rfl
  rcases open_slice ht h with ⟨rfl, _⟩ | ⟨a, len, cap, m, n, D, Pl, rfl, _, hl, hmx, hmm, _, hi⟩
  · exact ⟨none, 0, 0, rfl, .inl ⟨rfl, rfl, rfl⟩⟩
  · have hle : len ≤ m := by rw [hmm]; simp; omega
    rw [hC] at hi
    refine ⟨some a, len, cap, rfl, .inr ⟨a, rfl, hl, hmx, fun i hil => ?_⟩⟩
    obtain ⟨cs', hc, ht'⟩ := hi i (by omega)
    obtain ⟨ys, n', _, _, _, hyl, hg⟩ := DataW.trod_struct hs ht'
    obtain ⟨_, hcl, hat⟩ := World.cells?_some hc
    rw [hsz] at hyl
    match cs', hcl with
    | [c0, c1, c2, c3, c4, c5, c6, c7, c8, c9, c10, c11, c12, c13, c14, c15, c16], _ =>
      match ys, hyl with
      | [y0, y1, y2, y3, y4, y5, y6], _ =>
        obtain ⟨f0, g0, a0, b0, d0⟩ := hF 0 _ rfl
        have k0 := hg 0 f0 g0
        rw [d0, b0, a0] at k0
        obtain ⟨f1, g1, a1, b1, d1⟩ := hF 1 _ rfl
        have k1 := hg 1 f1 g1
        rw [d1, b1, a1] at k1
        obtain ⟨f2, g2, a2, b2, d2⟩ := hF 2 _ rfl
        have k2 := hg 2 f2 g2
        rw [d2, b2, a2] at k2
        obtain ⟨f3, g3, a3, b3, d3⟩ := hF 3 _ rfl
        have k3 := hg 3 f3 g3
        rw [d3, b3, a3] at k3
        obtain ⟨f4, g4, a4, b4, d4⟩ := hF 4 _ rfl
        have k4 := hg 4 f4 g4
        rw [d4, b4, a4] at k4
        obtain ⟨f5, g5, a5, b5, d5⟩ := hF 5 _ rfl
        have k5 := hg 5 f5 g5
        rw [d5, b5, a5] at k5
        obtain ⟨z0, e0, _, q0⟩ := DataW.trod_int u0 (x := y0) (cs := [c0]) k0
        obtain rfl := (List.cons.inj e0).1
        have w0 := hat 0 (by omega)
        obtain ⟨z1, e1, _, q1⟩ := DataW.trod_int u0 (x := y1) (cs := [c1]) k1
        obtain rfl := (List.cons.inj e1).1
        have w1 := hat 1 (by omega)
        obtain ⟨z2, e2, _, q2⟩ := DataW.trod_int u0 (x := y2) (cs := [c2]) k2
        obtain rfl := (List.cons.inj e2).1
        have w2 := hat 2 (by omega)
        obtain ⟨z3, e3, _, q3⟩ := DataW.trod_int u0 (x := y3) (cs := [c3]) k3
        obtain rfl := (List.cons.inj e3).1
        have w3 := hat 3 (by omega)
        refine ⟨z0, z1, z2, z3, ?_, by simpa using w1, by simpa using w2, by simpa using w3, ?_, ?_⟩
        · have e : (a.add (i * 17)).add 0 = a.add (i * 17) := rfl
          rw [e] at w0
          simpa using w0
        · refine val_at (x := y4) (cs' := [c4, c5, c6, c7, c8, c9]) _ rfl (fun j hj => ?_) k4
          have h1 := hat (4 + j) (by omega)
          rw [Addr.add_add]
          obtain rfl | rfl | rfl | rfl | rfl | rfl : j = 0 ∨ j = 1 ∨ j = 2 ∨ j = 3 ∨ j = 4 ∨ j = 5 := by omega
          all_goals simpa using h1
        · refine val_at (x := y5) (cs' := [c10, c11, c12, c13, c14, c15]) _ rfl (fun j hj => ?_) k5
          have h1 := hat (10 + j) (by omega)
          rw [Addr.add_add]
          obtain rfl | rfl | rfl | rfl | rfl | rfl : j = 0 ∨ j = 1 ∨ j = 2 ∨ j = 3 ∨ j = 4 ∨ j = 5 := by omega
          all_goals simpa using h1
end Go.Proofs.YteibkaonofkcbaaGreat
