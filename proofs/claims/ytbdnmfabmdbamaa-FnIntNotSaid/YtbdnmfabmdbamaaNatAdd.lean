/- One added to, or taken from, a natural. -/
import Derived.Test.YtbdnmfabmdbamaaSubVW
namespace Go.Proofs.Ytbdnmfabmdbamaa
open Go.RowKit
theorem nat_to (g n c k : Nat) (hk : k ≤ c) (hc : 0 < c) (w : World) :
    (Instr.slice 80 (.slice (some ⟨g, 0, none⟩) n c) none (some (.int .i64 (k : Int))) none).run Try.prog w = .ok (.slice (some ⟨g, 0, none⟩) k c) w := by
  have : ¬ c = 0 := by omega
  simp [Instr.slice, run_underlying Try.underlying80, Instr.sliceBounds, Instr.sliceBound, asIntOf, hk, Try.sizeOf124, Addr.add_lit]
theorem nat_from (g n c k : Nat) (hk : k < n) (hc : n ≤ c) (w : World) :
    (Instr.slice 80 (.slice (some ⟨g, 0, none⟩) n c) (some (.int .i64 (k : Int))) none none).run Try.prog w = .ok (.slice (some ⟨g, k, none⟩) (n - k) (c - k)) w := by
  have h1 : ¬ c = k := by omega
  have h2 : k ≤ n := by omega
  simp [Instr.slice, run_underlying Try.underlying80, Instr.sliceBounds, Instr.sliceBound, asIntOf, h2, h1, Try.sizeOf124, Addr.add_lit]
theorem nat_mid (g n c k m : Nat) (hk : k < m) (hc : m ≤ c) (w : World) :
    (Instr.slice 80 (.slice (some ⟨g, 0, none⟩) n c) (some (.int .i64 (k : Int))) (some (.int .i64 (m : Int))) none).run Try.prog w = .ok (.slice (some ⟨g, k, none⟩) (m - k) (c - k)) w := by
  have h1 : ¬ c = k := by omega
  have h2 : k ≤ m := by omega
  simp [Instr.slice, run_underlying Try.underlying80, Instr.sliceBounds, Instr.sliceBound, asIntOf, h2, h1, hc, Try.sizeOf124, Addr.add_lit]
theorem nat_one (w : World) : Calls Try.prog 85 #[] w fun e w' => ∃ v, e = .returned v ∧ OW w' w.heap.size v [1] ∧ Below w.heap.size w w' := by
  have h : OW (w.alloc (.cells #[.int .u64 1] 124)) w.heap.size (.slice (some ⟨w.heap.size, 0, none⟩) 1 1) [1] :=
    ⟨⟨rfl, .inr ⟨w.heap.size, 1, _, rfl, Nat.le_refl _, heap_alloc_new w _, Nat.le_refl _, by unfold maxLen; omega, rfl, rfl⟩⟩, by simp; unfold W64; omega⟩
  have H := Lib.hid h
  clear h
  go_enter Try.func85, Try.ntmps85
  go_wp2
  go_ret
  exact ⟨_, rfl, H.out, (Below.refl _ _).alloc (Nat.le_refl _) _⟩
theorem addVV_any {B gz N cz n cz2 gx cx gy cy : Nat} {zs : List Nat} {P : Nat → List Nat → Prop} {w : World} (h : Calls Try.prog 113 #[.slice (some ⟨gz, 0, none⟩) n cz2, .slice (some ⟨gx, 0, none⟩) n cx, .slice (some ⟨gy, 0, none⟩) n cy] w (VecPost B gz N cz n zs P w)) :
    Calls Try.prog 101 #[.slice (some ⟨gz, 0, none⟩) n cz2, .slice (some ⟨gx, 0, none⟩) n cx, .slice (some ⟨gy, 0, none⟩) n cy] w (VecPost B gz N cz n zs P w) := by
  have H := Lib.hid h
  clear h
  go_enter Try.func101, Try.ntmps101
  go_wp2_with fail
  refine H.out.mono ?_
  rintro e w' ⟨c, rs, rfl, h1, h2, h3, h4, h5⟩
  have HH := Lib.hid (show VecPost B gz N cz n zs P w (.returned (.int .u64 (c : Int))) w' from ⟨c, rs, rfl, h1, h2, h3, h4, h5⟩)
  clear h1 h2 h3 h4 h5
  go_wp2
  go_ret
  exact HH.out
theorem subVV_any {B gz N cz n cz2 gx cx gy cy : Nat} {zs : List Nat} {P : Nat → List Nat → Prop} {w : World} (h : Calls Try.prog 111 #[.slice (some ⟨gz, 0, none⟩) n cz2, .slice (some ⟨gx, 0, none⟩) n cx, .slice (some ⟨gy, 0, none⟩) n cy] w (VecPost B gz N cz n zs P w)) :
    Calls Try.prog 99 #[.slice (some ⟨gz, 0, none⟩) n cz2, .slice (some ⟨gx, 0, none⟩) n cx, .slice (some ⟨gy, 0, none⟩) n cy] w (VecPost B gz N cz n zs P w) := by
  have H := Lib.hid h
  clear h
  go_enter Try.func99, Try.ntmps99
  go_wp2_with fail
  refine H.out.mono ?_
  rintro e w' ⟨c, rs, rfl, h1, h2, h3, h4, h5⟩
  have HH := Lib.hid (show VecPost B gz N cz n zs P w (.returned (.int .u64 (c : Int))) w' from ⟨c, rs, rfl, h1, h2, h3, h4, h5⟩)
  clear h1 h2 h3 h4 h5
  go_wp2
  go_ret
  exact HH.out
def NatPost (n : Nat) (w : World) (e : Ending) (w' : World) : Prop := ∃ v ws, e = .returned v ∧ OW w' w.heap.size v ws ∧ valW ws = n ∧ TopNZ ws ∧ Below w.heap.size w w'
theorem OW.row {w : World} {B g c n : Nat} {l : List Nat} (h : OW w B (.slice (some ⟨g, 0, none⟩) n c) l) : ∃ ca ta, w.heap[g]? = some (.cells ca ta (0, 0)) := by
  rcases h.1.2 with ⟨h0, _⟩ | ⟨g', cap, cur, hv, hb, hh, _⟩
  · exact absurd h0 (by intro e; injection e with e1; cases e1)
  · injection hv with e1
    injection e1 with e1
    injection e1 with e1
    subst e1
    exact ⟨_, _, hh⟩
/-- The words of x, in a world in which another row may have turned. -/
theorem OW.src {w : World} {B g c n gz : Nat} {l : List Nat} (h : OW w B (.slice (some ⟨g, 0, none⟩) n c) l) (hne : g ≠ gz) : ∀ W', Only (· = gz) w W' → ∀ j (hj : j < l.length), W'.cell? ⟨g, j, none⟩ = some (.int .u64 ((l[j]'hj : Nat) : Int)) := fun W' hO j hj => by
  have hlt : g < w.heap.size := by obtain ⟨_, _, h⟩ := h.row; exact (Array.getElem?_eq_some_iff.1 h).1
  rw [World.cell?_of_block (hO.block g hlt hne)]
  exact h.cell j hj
end Go.Proofs.Ytbdnmfabmdbamaa
