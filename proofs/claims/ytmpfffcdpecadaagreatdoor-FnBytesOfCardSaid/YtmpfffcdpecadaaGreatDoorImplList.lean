/- The thin package's list of values without parts. -/
import Derived.Test.YtmpfffcdpecadaaGreatDoorScalarsX
import Derived.Test.YtmpfffcdpecadaaGreatDoorIter
namespace Go.Proofs.YtmpfffcdpecadaaGreatDoor
open Go.RowKit
theorem RowT.form {w : World} {B : Nat} {v : Value} {ps : List (Value × Sx)} (h : RowT w B v ps) : ∃ a c, v = .slice a ps.length c := by
  rcases h.1.2 with ⟨rfl, h0⟩ | ⟨g, cap, cur, rfl, _⟩
  · exact ⟨none, 0, by rw [h0]⟩
  · exact ⟨_, _, rfl⟩
def ImplListPost (ps : List (Value × Sx)) (w : World) (e : Ending) (w' : World) : Prop := ∃ L u qs, e = .returned (.tuple #[.pointer (some ⟨L, 0, none⟩), .bool true]) ∧ w.heap.size ≤ L ∧ ListB w' L u 0 ∧ RowT w' w.heap.size u qs ∧ qs.map (·.2) = ps.map (·.2) ∧ Below w.heap.size w w'
set_option maxRecDepth 100000 in
theorem impl_list (B : Nat) (v : Value) (ps : List (Value × Sx)) (w : World) (hv : RowX w B v ps) (hl : ps.length ≤ 1000) :
    Calls Tryz.prog 9 #[v] w (ImplListPost ps w) := by
  have HS := Lib.hid (scalars_x B v ps w hv hl)
  clear hv
  go_enter Tryz.func9, Tryz.ntmps9
  go_wp2_with fail
  refine HS.out.mono ?_
  rintro e w1 ⟨u, qs, rfl, hr, hm, hb⟩
  obtain ⟨a, c, rfl⟩ := hr.form
  obtain ⟨n, hn⟩ : ∃ n, n = qs.length := ⟨_, rfl⟩
  rw [← hn] at hr
  have HR := Lib.hid hr
  have HM := Lib.hid hm
  have HB := Lib.hid hb
  rw [← hn]
  clear hr hm hb hn
  go_wp2_with fail
  refine (new_list a n c _).mono ?_
  rintro e w2 ⟨rfl, rfl⟩
  go_wp2
  go_ret2
  exact ⟨w1.heap.size, _, qs, rfl, HB.out.size, Blk.new _ _ _, HR.out.below ((Below.refl _ w1).alloc (Nat.le_refl _) _), HM.out, HB.out.alloc HB.out.size _⟩
end Go.Proofs.YtmpfffcdpecadaaGreatDoor
