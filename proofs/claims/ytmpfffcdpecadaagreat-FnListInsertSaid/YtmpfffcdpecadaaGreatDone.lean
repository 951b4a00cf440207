/- Going through a list: what stays, the end of it. -/
import Derived.Test.YtmpfffcdpecadaaGreatIter
import Derived.Tactics
import Derived.Defers
namespace Go.Proofs.YtmpfffcdpecadaaGreat
open Go.RowKit
attribute [local go_sem ↓] Go.wp_at_zero Go.wp_at_succ
@[go_sem] theorem Tryz.mIterate (a : Addr) (w : World) : (method 389 42 (.pointer (some a)) "Iterate").run Tryz.prog w = .ok (146, .pointer (some a)) w := by kernel_rfl
@[go_sem] theorem Tryz.mNext (a : Addr) (w : World) : (method 389 242 (.pointer (some a)) "Next").run Tryz.prog w = .ok (207, .pointer (some a)) w := by kernel_rfl
@[go_sem] theorem Tryz.mDone (a : Addr) (w : World) : (method 389 242 (.pointer (some a)) "Done").run Tryz.prog w = .ok (206, .pointer (some a)) w := by kernel_rfl
/-- Values of the package stay where blocks of other types are written. -/
theorem SI.apart {S : Nat → Prop} {w w' : World} {B : Nat} {v : Value} {n : Int} (h : SI w B v n) (hs : ∀ g, S g → g < w.heap.size → ∃ t cs, Blk w g t cs ∧ 138 ≠ t ∧ 194 ≠ t) (k : Only S w w') : SI w' B v n := by
  rcases h with h | ⟨hs0, b, neg, ws, hv, hb, ⟨x, hk, ho, hr⟩, he⟩
  · exact .inl h
  · refine .inr ⟨hs0, b, neg, ws, hv, hb, ⟨x, hk.only k ?_, ⟨own_only ho.1 k (fun q hq e => ?_), ho.2⟩, hr⟩, he⟩
    · intro e
      obtain ⟨t, cs, hg, h1, _⟩ := hs _ e hk.lt
      have := hk.symm.trans hg
      injection this with h
      injection h with _ h
      exact h1 h
    · obtain ⟨cs0, hq0⟩ := Blk.of_own (g := q) (n := 0) (c := 0) ho.1 hq
      obtain ⟨t, cs, hg, _, h2⟩ := hs _ e hq0.lt
      exact own_ne_blk ho.1 hg h2 q hq rfl
theorem TVal.apart {S : Nat → Prop} {w w' : World} {u : Value} {s : Sx} (h : TVal w u s) (hs : ∀ g, S g → g < w.heap.size → ∃ t cs, Blk w g t cs ∧ 138 ≠ t ∧ 194 ≠ t) (k : Only S w w') : TVal w' u s := by
  cases s with
  | int neg l => obtain ⟨v, e, h⟩ := h; exact ⟨v, e, h.apart hs k⟩
  | _ => exact h
theorem RowT.apart {S : Nat → Prop} {w w' : World} {B : Nat} {v : Value} {ps : List (Value × Sx)} (h : RowT w B v ps) (hv : ∀ g, v.ownBlock = some g → ¬ S g) (hs : ∀ g, S g → g < w.heap.size → ∃ t cs, Blk w g t cs ∧ 138 ≠ t ∧ 194 ≠ t) (k : Only S w w') : RowT w' B v ps :=
  ⟨own_only h.1 k hv, fun p hp => (h.2 p hp).apart hs k⟩
set_option maxRecDepth 100000 in
set_option maxHeartbeats 1000000 in
theorem done_d (it L : Nat) (v : Value) (i : Int) (u : FrameMode) (w : World) (hI : IterB w it L i) (hL : ListB w L v 1) :
    CallsD Tryz.prog 206 #[.pointer (some ⟨it, 0, none⟩)] u w fun e u' w' => u' = u ∧ (e = .returned (.tuple #[]) ∧ ListB w' L v 0 ∧ Only (· = L) w w') := by
  have HK := Lib.hid (Blk.put hL 2 (.int .u32 0))
  have HO := Lib.hid ((Only.refl (· = L) w).setCell (p := ⟨L, 2, none⟩) (.inl (rfl : L = L)) (.int .u32 0))
  obtain ⟨c0, c1, c2, f0, f1, f2⟩ := blk_three hL
  obtain ⟨i0, i1⟩ : _ ∧ _ := ⟨(Blk.cell hI 0).trans rfl, (Blk.cell hI 1).trans rfl⟩
  clear hI hL
  go_enter_d Tryz.func206, Tryz.ntmps206
  go_wp2
  go_end0
  exact ⟨rfl, HK.out, HO.out⟩
theorem row_at {w : World} {B : Nat} {v : Value} {ps : List (Value × Sx)} (h : RowT w B v ps) (i : Nat) (hi : i < ps.length) :
    ∃ g cap, v = .slice (some ⟨g, 0, none⟩) ps.length cap ∧ g < w.heap.size ∧ B ≤ g ∧ w.cell? ⟨g, i, none⟩ = some (ps[i]'hi).1 := by
  rcases h.1.2 with ⟨_, h0⟩ | ⟨g, cap, cur, rfl, hb, hh, _⟩
  · omega
  · refine ⟨g, cap, rfl, (Array.getElem?_eq_some_iff.1 hh).1, hb, ?_⟩
    have := h.1.cells (g := g) rfl i (ps[i]'hi).1 (by simp [hi])
    rw [Addr.add_lit] at this
    simpa using this
end Go.Proofs.YtmpfffcdpecadaaGreat
