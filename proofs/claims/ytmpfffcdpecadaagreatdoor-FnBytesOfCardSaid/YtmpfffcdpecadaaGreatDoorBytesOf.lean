/- bytes of a list, called by the thin package. -/
import Derived.Test.YtmpfffcdpecadaaGreatDoorBytesAt
import Derived.Test.YtmpfffcdpecadaaGreatDoorImplList
namespace Go.Proofs.YtmpfffcdpecadaaGreatDoor
open Go.RowKit
attribute [local go_sem ↓] Go.wp_at_zero Go.wp_at_succ
set_option maxHeartbeats 1600000 in
theorem zz_bytes (L A ca B : Nat) (v : Value) (ps : List (Value × Sx)) (w : World) (hA : w.cell? ⟨A, 0, none⟩ = some (.iface 37 (.pointer (some ⟨L, 0, none⟩)))) (hL : ListB w L v 0) (hR : RowT w B v ps) (hl : ps.length ≤ 1000) :
    Calls Tryz.prog 10 #[.slice (some ⟨A, 0, none⟩) 1 ca] w (BytesPost (ps.map (·.2)) L w) := by
  have HC := Lib.hid (bytes_at L A ca B v ps w hA hL hR hl)
  clear hA hL hR hl
  go_enter Tryz.func10, Tryz.ntmps10
  go_wp2_with fail
  refine HC.out.mono ?_
  rintro e w1 ⟨h0, h1⟩
  have H1 := Lib.hid h1
  clear h1
  rcases h0 with ⟨acc, ha, rfl⟩ | ⟨ha, ve, ⟨eb, rfl⟩, rfl⟩
  · have HA := Lib.hid ha
    clear ha
    go_wp2
    go_ret2
    exact ⟨.inl ⟨acc, HA.out, rfl⟩, H1.out⟩
  · have HA := Lib.hid ha
    clear ha
    go_wp2
    go_ret2
    exact ⟨.inr ⟨HA.out, _, ⟨_, rfl⟩, rfl⟩, H1.out⟩
@[go_sem] theorem Tryz.isByt (v : Value) (w : World) : (Instr.typeAssert (.iface 46 v) 41 46 true).run Tryz.prog w = .ok (.tuple #[v, .bool true]) w := by kernel_rfl
@[go_sem] theorem Tryz.nilByt (w : World) : (Instr.typeAssert .nilIface 41 46 true).run Tryz.prog w = .ok (.tuple #[.string ⟨#[]⟩, .bool false]) w := by kernel_rfl
def ImplBPost (l : List Sx) (w : World) (e : Ending) (w' : World) : Prop :=
  ((∃ acc, bX l = some acc ∧ e = .returned (.tuple #[.string ⟨acc.toArray⟩, .bool true, .bool true])) ∨ (bX l = none ∧ e = .returned (.tuple #[.string ⟨#[]⟩, .bool false, .bool true]))) ∧ Below w.heap.size w w'
set_option maxHeartbeats 1600000 in
set_option maxRecDepth 20000 in
theorem impl_bytes (B : Nat) (v : Value) (ps : List (Value × Sx)) (w : World) (hv : RowX w B v ps) (hl : ps.length ≤ 1000) :
    Calls Tryz.prog 5 #[v] w (ImplBPost (ps.map (·.2)) w) := by
  have HS := Lib.hid (impl_list B v ps w hv hl)
  have HL := Lib.hid hl
  clear hv hl
  go_enter Tryz.func5, Tryz.ntmps5
  go_wp2_with fail
  refine HS.out.mono ?_
  rintro e w1 ⟨L, u, qs, rfl, hLw, hL, hr, hm, hb⟩
  obtain ⟨A, hA⟩ : ∃ A, A = w1.heap.size := ⟨_, rfl⟩
  have hqs : qs.length ≤ 1000 := by have := congrArg List.length hm; simp only [List.length_map] at this; rw [this]; exact HL.out
  have hal : Below w1.heap.size w1 (w1.alloc (.cells #[.iface 37 (.pointer (some ⟨L, 0, none⟩))] 41)) := (Below.refl _ _).alloc (Nat.le_refl _) _
  have HC := Lib.hid (zz_bytes L A 1 w.heap.size u qs (w1.alloc (.cells #[.iface 37 (.pointer (some ⟨L, 0, none⟩))] 41)) (by rw [hA]; exact ((Blk.new w1 _ _).cell 0).trans rfl) (hL.alloc _) (hr.below hal) hqs)
  rw [hm] at HC
  have HB := Lib.hid (hb.alloc hb.size (.cells #[.iface 37 (.pointer (some ⟨L, 0, none⟩))] 41))
  have HAH := Lib.hid hA
  clear hL hr hm hb hal hqs hA
  go_wp2_with fail
  first | (rw [← HAH.out]; refine HC.out.mono ?_) | refine HC.out.mono ?_
  rintro e w2 ⟨h0, h2⟩
  have HB2 := Lib.hid (HB.out.trans (h2.to_below HB.out.size (fun k _ e => by omega)))
  clear h2
  rcases h0 with ⟨acc, ha, rfl⟩ | ⟨ha, ve, ⟨eb, rfl⟩, rfl⟩
  · have HA := Lib.hid ha
    clear ha
    go_wp2
    go_ret3
    exact ⟨.inl ⟨acc, HA.out, rfl⟩, HB2.out⟩
  · have HA := Lib.hid ha
    clear ha
    go_wp2
    go_ret3
    exact ⟨.inr ⟨HA.out, rfl⟩, HB2.out⟩
end Go.Proofs.YtmpfffcdpecadaaGreatDoor
