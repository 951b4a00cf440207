/- A slice of instructions that is handed in, opened. -/
import Derived.Test.YtkddmiamdpbgiaaPlcLaw
import Derived.Deep.Slices
namespace Go.Proofs.Ytkddmiamdpbgiaa
open Go.RowKit Go.ChangeShapes Go.WideShapes Go.Deep
set_option maxRecDepth 100000 in
theorem open_raw {H : Type} {enc : TypeId × Value → H} {w : World} {base : Nat} {spare : Nat → Bool} {held : Bool} {fuel : Nat} {cs : List Value} {x : DataW H × List MemPlace}
    (h : DataW.trod enc Try.prog w base spare held fuel 36 cs = some x) : ∃ a len cap zs, cs = [.slice a len cap] ∧ RawAt w a len cap zs := by
  have ht : Try.prog.underlying 36 = some (.slice 39) := Try.underlying36
  have he : Try.prog.underlying 39 = some (.struct (Try.prog.fieldsOf 39)) := by kernel_rfl
  have hC : Try.prog.cellsOf 39 = 4 := by kernel_rfl
  have hm : (Try.prog.fieldsOf 39).map (fun f => (f.type, f.offset, Try.prog.cellsOf f.type)) = #[(3, 0, 1), (37, 1, 1), (21, 2, 1), (21, 3, 1)] := by kernel_rfl
  have hsz : (Try.prog.fieldsOf 39).size = 4 := by rw [← Array.size_map (f := fun f : Field => (f.type, f.offset, Try.prog.cellsOf f.type)), hm]; rfl
  have hF : ∀ (j : Nat) (p : TypeId × Nat × Nat), (#[(3, 0, 1), (37, 1, 1), (21, 2, 1), (21, 3, 1)] : Array (TypeId × Nat × Nat))[j]? = some p → ∃ f : Field, (Try.prog.fieldsOf 39)[j]? = some f ∧ f.type = p.1 ∧ f.offset = p.2.1 ∧ Try.prog.cellsOf f.type = p.2.2 := by
    intro j p hp
    rw [← hm, Array.getElem?_map] at hp
    obtain ⟨f, h1, rfl⟩ := Option.map_eq_some_iff.1 hp
    exact ⟨f, h1, rfl, rfl, rfl⟩
  have u0 : Try.prog.underlying 3 = some (.int .i64) := by kernel_rfl
  have u1 : Try.prog.underlying 37 = some (.int .u32) := by kernel_rfl
  have u2 : Try.prog.underlying 21 = some (.int .i32) := by kernel_rfl
  rcases open_slice ht h with ⟨rfl, _⟩ | ⟨a, len, cap, m, n, D, Pl, rfl, _, hl, hmx, hmm, _, hi⟩
  · exact ⟨none, 0, 0, [], rfl, .inl ⟨rfl, rfl, rfl, rfl⟩⟩
  · have hle : len ≤ m := by rw [hmm]; split <;> omega
    rw [hC] at hi
    have one : ∀ i, i < len → ∃ r : Raw, w.cell? (a.add (i * 4)) = some (.int .i64 r.op) ∧ w.cell? ((a.add (i * 4)).add 1) = some (.int .u32 (r.arg : Int)) ∧ w.cell? ((a.add (i * 4)).add 2) = some (.int .i32 r.line) ∧ w.cell? ((a.add (i * 4)).add 3) = some (.int .i32 r.col) ∧ r.ok := by
      intro i hil
      obtain ⟨cs', hc, ht'⟩ := hi i (by omega)
      obtain ⟨ys, n', _, _, _, hyl, hf⟩ := DataW.trod_struct he ht'
      obtain ⟨_, hcl, hat⟩ := World.cells?_some hc
      rw [hsz] at hyl
      match cs', hcl with
      | [c0, c1, c2, c3], _ =>
        match ys, hyl with
        | [y0, y1, y2, y3], _ =>
          obtain ⟨f0, g0, a0, b0, d0⟩ := hF 0 _ rfl
          obtain ⟨f1, g1, a1, b1, d1⟩ := hF 1 _ rfl
          obtain ⟨f2, g2, a2, b2, d2⟩ := hF 2 _ rfl
          obtain ⟨f3, g3, a3, b3, d3⟩ := hF 3 _ rfl
          have k0 := hf 0 f0 g0
          have k1 := hf 1 f1 g1
          have k2 := hf 2 f2 g2
          have k3 := hf 3 f3 g3
          rw [d0, b0, a0] at k0
          rw [d1, b1, a1] at k1
          rw [d2, b2, a2] at k2
          rw [d3, b3, a3] at k3
          obtain ⟨z0, e0, _, q0⟩ := DataW.trod_int u0 (x := y0) (cs := [c0]) k0
          obtain ⟨z1, e1, _, q1⟩ := DataW.trod_int u1 (x := y1) (cs := [c1]) k1
          obtain ⟨z2, e2, _, q2⟩ := DataW.trod_int u2 (x := y2) (cs := [c2]) k2
          obtain ⟨z3, e3, _, q3⟩ := DataW.trod_int u2 (x := y3) (cs := [c3]) k3
          obtain rfl := (List.cons.inj e0).1
          obtain rfl := (List.cons.inj e1).1
          obtain rfl := (List.cons.inj e2).1
          obtain rfl := (List.cons.inj e3).1
          have w0 := hat 0 (by omega)
          have w1 := hat 1 (by omega)
          have w2 := hat 2 (by omega)
          have w3 := hat 3 (by omega)
          simp [Lit.wf, IntKind.min, IntKind.max, IntKind.signed, IntKind.bits] at q0 q1 q2 q3
          refine ⟨⟨z0, z1.toNat, z2, z3⟩, ?_, ?_, ?_, ?_, ?_⟩
          · have e : (a.add (i * 4)).add 0 = a.add (i * 4) := rfl
            rw [e] at w0
            simpa using w0
          · have e : ((z1.toNat : Nat) : Int) = z1 := by omega
            simp only [e]
            simpa using w1
          · simpa using w2
          · simpa using w3
          · exact ⟨by simp only; omega, by simp only; omega, by simp only; omega, by simp only; omega⟩
    have : Inhabited Raw := ⟨⟨0, 0, 0, 0⟩⟩
    obtain ⟨f, hf⟩ := choose_lt one
    refine ⟨some a, len, cap, (List.range len).map f, rfl, .inr ⟨a, rfl, hl, hmx, by simp, fun i hi2 => ?_⟩⟩
    have hil : i < len := by simpa using hi2
    have e : ((List.range len).map f)[i]'hi2 = f i := by simp
    rw [e]
    exact hf i hil
theorem placed_said (ln c : Int) (a : Option Addr) (len cap : Nat) (zs : List Raw) (w : World) (hln : (Lit.int .u16 ln).wf = true) (hc : (Lit.int .u16 c).wf = true) (hz : RawAt w a len cap zs) :
    Calls Try.prog 4 #[.int .u16 ln, .int .u16 c, .slice a len cap] w fun e w' => e = .returned (.bool true) ∧ Below w.heap.size w w' := by
  simp [Lit.wf, IntKind.min, IntKind.max, IntKind.signed, IntKind.bits] at hln hc
  exact placed_law ln c a len cap zs w (by omega) (by omega) hz
end Go.Proofs.Ytkddmiamdpbgiaa
