/- Blocks of two and of six cells; what they keep. -/
import Derived.Test.YtndeolcamgnmdaaSInt
namespace Go.Proofs.Ytndeolcamgnmdaa
open Go.RowKit
theorem ob_new_at (w : World) (B n : Nat) (hn : w.heap.size = n) (hB : B ≤ n) : OB (w.alloc (.cells #[] 5)).drew B (.slice (some ⟨n, 0, none⟩) 0 0) [] := by
  subst hn
  obtain ⟨h1, h2⟩ := ob_new w B hB
  exact ⟨h1.drew, h2⟩
theorem blk2 {w : World} {g : Nat} {t : TypeId} {a b : Value} (h : Blk w g t #[a, b]) :
    w.cell? ⟨g, 0, none⟩ = some a ∧ w.cell? ⟨g, 1, none⟩ = some b ∧ w.frozen? ⟨g, 0, none⟩ = false ∧ w.frozen? ⟨g, 1, none⟩ = false :=
  ⟨(h.cell 0).trans rfl, (h.cell 1).trans rfl, h.frozen 0, h.frozen 1⟩
theorem blk6 {w : World} {g : Nat} {t : TypeId} {a b c d e f : Value} (h : Blk w g t #[a, b, c, d, e, f]) :
    w.cell? ⟨g, 0, none⟩ = some a ∧ w.cell? ⟨g, 1, none⟩ = some b ∧ w.cell? ⟨g, 2, none⟩ = some c ∧ w.cell? ⟨g, 3, none⟩ = some d ∧ w.cell? ⟨g, 4, none⟩ = some e ∧ w.cell? ⟨g, 5, none⟩ = some f ∧
    w.frozen? ⟨g, 0, none⟩ = false ∧ w.frozen? ⟨g, 1, none⟩ = false ∧ w.frozen? ⟨g, 2, none⟩ = false ∧ w.frozen? ⟨g, 3, none⟩ = false ∧ w.frozen? ⟨g, 4, none⟩ = false ∧ w.frozen? ⟨g, 5, none⟩ = false :=
  ⟨(h.cell 0).trans rfl, (h.cell 1).trans rfl, (h.cell 2).trans rfl, (h.cell 3).trans rfl, (h.cell 4).trans rfl, (h.cell 5).trans rfl, h.frozen 0, h.frozen 1, h.frozen 2, h.frozen 3, h.frozen 4, h.frozen 5⟩
theorem two_set (w : World) (b : Nat) (u0 u1 : Value) : Only (· = b) w ((w.setCell ⟨b, 0, none⟩ u0).setCell ⟨b, 1, none⟩ u1) :=
  ((Only.refl (fun x => x = b) w).setCell (p := ⟨b, 0, none⟩) (.inl (rfl : b = b)) u0).setCell (p := ⟨b, 1, none⟩) (.inl (rfl : b = b)) u1
theorem six_set (w : World) (b : Nat) (u0 u1 u2 u3 u4 u5 : Value) : Only (· = b) w ((((((w.setCell ⟨b, 0, none⟩ u0).setCell ⟨b, 1, none⟩ u1).setCell ⟨b, 2, none⟩ u2).setCell ⟨b, 3, none⟩ u3).setCell ⟨b, 4, none⟩ u4).setCell ⟨b, 5, none⟩ u5) :=
  ((((two_set w b u0 u1).setCell (p := ⟨b, 2, none⟩) (.inl rfl) u2).setCell (p := ⟨b, 3, none⟩) (.inl rfl) u3).setCell (p := ⟨b, 4, none⟩) (.inl rfl) u4).setCell (p := ⟨b, 5, none⟩) (.inl rfl) u5
theorem OB.only {w w' : World} {B : Nat} {S : Nat → Prop} {v : Value} {l : List Nat} (h : OB w B v l) (k : Only S w w') (hs : ∀ g, B ≤ g → ¬ S g) : OB w' B v l :=
  ⟨own_only h.1 k fun g hg => hs g (h.1.lt g hg).1, h.2⟩
theorem told_below (w w5 : World) (a b : Obj) (h : Below (w.heap.size + 1 + 1) (((w.alloc a).alloc b).alloc (.cells #[] 5)).drew w5) : Below w.heap.size w w5 :=
  (((((Below.refl _ w).alloc (Nat.le_refl _) a).alloc (by simp) b).alloc (by simp; omega) _).drew).trans (h.mono (by omega))
end Go.Proofs.Ytndeolcamgnmdaa
