/- any, called by the thin package. -/
import Derived.Test.YtmpfffcdpecadaaGreatAny
namespace Go.Proofs.YtmpfffcdpecadaaGreat
open Go.RowKit
attribute [local go_sem ↓] Go.wp_at_zero Go.wp_at_succ
@[go_sem] theorem Tryz.assertBool (v : Value) (w : World) : (Instr.typeAssert (.iface 85 v) 49 85 true).run Tryz.prog w = .ok (.tuple #[v, .bool true]) w := by kernel_rfl
set_option maxHeartbeats 1600000 in
theorem of_truth (b : Bool) (w : World) :
    Calls Tryz.prog 24 #[.iface 85 (.bool b), .nilIface] w fun e w' => e = .returned (.tuple #[.bool b, .bool true]) ∧ Below w.heap.size w w' := by
  cases b
  all_goals
    go_enter Tryz.func24, Tryz.ntmps24
    go_wp2_with fail
    go_quiet (fail)
    go_wp2
    go_ret2
    exact ⟨rfl, below_dn (Below.refl _ _) _⟩
set_option maxHeartbeats 1600000 in
theorem zz_any (L A ca B : Nat) (v : Value) (ps : List (Value × Sx)) (w : World) (hA : w.cell? ⟨A, 0, none⟩ = some (.iface 42 (.pointer (some ⟨L, 0, none⟩)))) (hL : ListB w L v 0) (hR : RowT w B v ps) (hl : ps.length ≤ 1000) :
    Calls Tryz.prog 25 #[.slice (some ⟨A, 0, none⟩) 1 ca] w fun e w' => e = .returned (.tuple #[.iface 85 (.bool (ps.any fun p => truthX p.2)), .nilIface]) ∧ Only (· = L) w w' := by
  have HC := Lib.hid (any_at L A ca B v ps w hA hL hR hl)
  obtain ⟨q, hq⟩ : ∃ q, q = ps.any fun p => truthX p.2 := ⟨_, rfl⟩
  rw [← hq] at HC ⊢
  clear hA hL hR hl hq
  go_enter Tryz.func25, Tryz.ntmps25
  go_wp2_with fail
  refine HC.out.mono ?_
  rintro e w1 ⟨rfl, h1⟩
  go_wp2
  go_ret2
  exact ⟨rfl, h1⟩
theorem any_same {ps qs : List (Value × Sx)} (h : qs.map (·.2) = ps.map (·.2)) : (qs.any fun p => truthX p.2) = ps.any fun p => truthX p.2 := by
  have e : ∀ l : List (Value × Sx), (l.any fun p => truthX p.2) = (l.map (·.2)).any truthX := fun l => by rw [List.any_map]; rfl
  rw [e, e, h]
set_option maxHeartbeats 1600000 in
theorem impl_any (B : Nat) (v : Value) (ps : List (Value × Sx)) (w : World) (hv : RowX w B v ps) (hl : ps.length ≤ 1000) :
    Calls Tryz.prog 10 #[v] w fun e w' => e = .returned (.tuple #[.bool (ps.any fun p => truthX p.2), .bool true, .bool true]) ∧ Below w.heap.size w w' := by
  have HS := Lib.hid (impl_list B v ps w hv hl)
  have HL := Lib.hid hl
  obtain ⟨q, hq⟩ : ∃ q, q = ps.any fun p => truthX p.2 := ⟨_, rfl⟩
  rw [← hq]
  have HQ := Lib.hid hq
  clear hv hl hq
  go_enter Tryz.func10, Tryz.ntmps10
  go_wp2_with fail
  refine HS.out.mono ?_
  rintro e w1 ⟨L, u, qs, rfl, hLw, hL, hr, hm, hb⟩
  obtain ⟨A, hA⟩ : ∃ A, A = w1.heap.size := ⟨_, rfl⟩
  have hqs : qs.length ≤ 1000 := by have := congrArg List.length hm; simp only [List.length_map] at this; rw [this]; exact HL.out
  have hal : Below w1.heap.size w1 (w1.alloc (.cells #[.iface 42 (.pointer (some ⟨L, 0, none⟩))] 49)) := (Below.refl _ _).alloc (Nat.le_refl _) _
  have HC := Lib.hid (zz_any L A 1 w.heap.size u qs (w1.alloc (.cells #[.iface 42 (.pointer (some ⟨L, 0, none⟩))] 49)) (by rw [hA]; exact ((Blk.new w1 _ _).cell 0).trans rfl) (hL.alloc _) (hr.below hal) hqs)
  rw [any_same hm, ← HQ.out] at HC
  have HB := Lib.hid (hb.alloc hb.size (.cells #[.iface 42 (.pointer (some ⟨L, 0, none⟩))] 49))
  have HAH := Lib.hid hA
  clear hL hr hm hb hal hqs hA
  go_wp2_with fail
  first | (rw [← HAH.out]; refine HC.out.mono ?_) | refine HC.out.mono ?_
  rintro e w2 ⟨rfl, h2⟩
  have HB2 := Lib.hid (HB.out.trans (h2.to_below HB.out.size (fun k _ e => by omega)))
  clear h2
  go_wp2_with fail
  refine (of_truth q _).mono ?_
  rintro e w3 ⟨rfl, hb3⟩
  have HB3 := Lib.hid (HB2.out.trans (hb3.mono HB2.out.size))
  clear hb3
  go_wp2
  go_ret3
  exact ⟨rfl, HB3.out⟩
end Go.Proofs.YtmpfffcdpecadaaGreat
