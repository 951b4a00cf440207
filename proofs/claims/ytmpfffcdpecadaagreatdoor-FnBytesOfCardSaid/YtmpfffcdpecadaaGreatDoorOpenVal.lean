/- A value of the thin package that is handed in, opened: six cells, its magnitude a slice of bytes. -/
import Derived.Test.YtmpfffcdpecadaaGreatDoorNum
import Derived.Deep.Slices
import Derived.OpenShut
namespace Go.Proofs.YtmpfffcdpecadaaGreatDoor
open Go.RowKit Go.ChangeShapes Go.WideShapes Go.Deep
/-- What a value's bytes are. -/
def ValIn (W : World) (a : Option Addr) (m c : Nat) (l : List Nat) : Prop := BSl W (.slice a m c) l ∧ l.length = m
set_option maxRecDepth 100000 in
theorem open_val {H : Type} {enc : TypeId × Value → H} {w : World} {base b0 : Nat} {r : Reach} {held : Bool} {v : Value} {d : DataW H} {p : List MemPlace}
    (hv : Value.okWide Tryz.prog w r b0 29 v) (h : DataW.Trod enc Tryz.prog w base (fun _ => true) held 29 v d p) :
    ∃ (k : Int) (n : Bool) (a : Option Addr) (m c : Nat) (b : Int) (x : ByteArray) (ka : Option Addr) (kn kc : Nat) (l : List Nat), v = pv k n a m c b x ka kn kc ∧ ValIn w a m c l := by
  have hs : Tryz.prog.underlying 29 = some (.struct (Tryz.prog.fieldsOf 29)) := by kernel_rfl
  have hC : Tryz.prog.cellsOf 29 = 6 := by kernel_rfl
  have hm : (Tryz.prog.fieldsOf 29).map (fun f => (f.type, f.offset, Tryz.prog.cellsOf f.type)) = #[(3, 0, 1), (4, 1, 1), (26, 2, 1), (27, 3, 1), (9, 4, 1), (22, 5, 1)] := by kernel_rfl
  have hsz : (Tryz.prog.fieldsOf 29).size = 6 := by rw [← Array.size_map (f := fun f : Field => (f.type, f.offset, Tryz.prog.cellsOf f.type)), hm]; rfl
  have hF : ∀ (j : Nat) (p : TypeId × Nat × Nat), (#[(3, 0, 1), (4, 1, 1), (26, 2, 1), (27, 3, 1), (9, 4, 1), (22, 5, 1)] : Array (TypeId × Nat × Nat))[j]? = some p → ∃ f : Field, (Tryz.prog.fieldsOf 29)[j]? = some f ∧ f.type = p.1 ∧ f.offset = p.2.1 ∧ Tryz.prog.cellsOf f.type = p.2.2 := by
    intro j p hp
    rw [← hm, Array.getElem?_map] at hp
    obtain ⟨f, h1, rfl⟩ := Option.map_eq_some_iff.1 hp
    exact ⟨f, h1, rfl, rfl, rfl⟩
  have u0 : Tryz.prog.underlying 3 = some (.int .i64) := by kernel_rfl
  have u1 : Tryz.prog.underlying 4 = some .bool := by kernel_rfl
  have u2 : Tryz.prog.underlying 26 = some (.slice 5) := by kernel_rfl
  have u2e : Tryz.prog.underlying 5 = some (.int .u8) := by kernel_rfl
  have u3 : Tryz.prog.underlying 27 = some (.int .u64) := by kernel_rfl
  have u4 : Tryz.prog.underlying 9 = some .string := by kernel_rfl
  have u5 : Tryz.prog.underlying 22 = some (.slice 29) := by kernel_rfl
  obtain ⟨cs, rfl, hcz⟩ := okWide_struct hs hv
  obtain ⟨L⟩ := cs
  match L, hcz.trans hC with
  | [c0, c1, c2, c3, c4, c5], _ =>
    obtain ⟨fuel, hf⟩ := h
    obtain ⟨ys, n, _, _, _, hyl, hg⟩ := DataW.trod_struct hs hf
    rw [hsz] at hyl
    match ys, hyl with
    | [y0, y1, y2, y3, y4, y5], _ =>
      obtain ⟨f0, g0, a0, b0, d0⟩ := hF 0 _ rfl
      obtain ⟨f1, g1, a1, b1, d1⟩ := hF 1 _ rfl
      obtain ⟨f2, g2, a2, b2, d2⟩ := hF 2 _ rfl
      obtain ⟨f3, g3, a3, b3, d3⟩ := hF 3 _ rfl
      obtain ⟨f4, g4, a4, b4, d4⟩ := hF 4 _ rfl
      obtain ⟨f5, g5, a5, b5, d5⟩ := hF 5 _ rfl
      have k0 := hg 0 f0 g0
      have k1 := hg 1 f1 g1
      have k2 := hg 2 f2 g2
      have k3 := hg 3 f3 g3
      have k4 := hg 4 f4 g4
      have k5 := hg 5 f5 g5
      rw [d0, b0, a0] at k0
      rw [d1, b1, a1] at k1
      rw [d2, b2, a2] at k2
      rw [d3, b3, a3] at k3
      rw [d4, b4, a4] at k4
      rw [d5, b5, a5] at k5
      simp [Value.cells] at k0 k1 k2 k3 k4 k5
      obtain ⟨z0, e0, _, _⟩ := DataW.trod_int u0 (x := y0) (cs := [c0]) k0
      obtain ⟨z1, e1, _⟩ := DataW.trod_bool u1 (x := y1) (cs := [c1]) k1
      obtain ⟨z3, e3, _, _⟩ := DataW.trod_int u3 (x := y3) (cs := [c3]) k3
      obtain ⟨z4, e4, _, _⟩ := DataW.trod_string u4 (x := y4) (cs := [c4]) k4
      obtain rfl := (List.cons.inj e0).1
      obtain rfl := (List.cons.inj e1).1
      obtain rfl := (List.cons.inj e3).1
      obtain rfl := (List.cons.inj e4).1
      have hkid : ∃ ka kn kc, c5 = .slice ka kn kc := by
        rcases open_slice u5 k5 with ⟨e, _⟩ | ⟨a, len, cap, _, _, _, _, e, _⟩
        · exact ⟨_, _, _, (List.cons.inj e).1⟩
        · exact ⟨_, _, _, (List.cons.inj e).1⟩
      obtain ⟨ka, kn, kc, rfl⟩ := hkid
      have hmag : ∃ a len cap zs, c2 = .slice a len cap ∧ IsRow .u8 w a len cap zs := by
        rcases open_ints u2 u2e (by kernel_rfl) k2 with ⟨hcs, _⟩ | ⟨x, l, c, zs, hcs, _, hl, hm, hz, _, hcell, hwz⟩
        · exact ⟨none, 0, 0, [], (List.cons.inj hcs).1, .inl ⟨rfl, rfl, rfl, rfl⟩⟩
        · exact ⟨some x, l, c, zs, (List.cons.inj hcs).1, .inr ⟨_, rfl, hl, hm, by simpa using hz, hcell, hwz⟩⟩
      obtain ⟨a, len, cap, zs, rfl, hrow⟩ := hmag
      exact ⟨z0, z1, a, len, cap, z3, z4, ka, kn, kc, _, rfl, bsl_of_row hrow⟩
end Go.Proofs.YtmpfffcdpecadaaGreatDoor
