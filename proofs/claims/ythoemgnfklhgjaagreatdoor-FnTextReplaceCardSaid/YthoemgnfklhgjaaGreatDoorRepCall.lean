/- What the thin package hands to string.replace: two texts, and a count or none. -/
import Derived.Test.YthoemgnfklhgjaaGreatDoorStrRep
import Derived.Test.YthoemgnfklhgjaaGreatDoorScalars
namespace Go.Proofs.YthoemgnfklhgjaaGreatDoor
open Go.RowKit
attribute [local go_sem ↓] Go.wp_at_zero Go.wp_at_succ
theorem PVal.base {w : World} {B C : Nat} {v : Value} {s : Sc} (h : PVal w B v s) (hC : C ≤ B) : PVal w C v s := by
  cases s with
  | none => exact h
  | int n => obtain ⟨neg, l, h1, h2⟩ := h; exact ⟨neg, l, h1.base hC, h2⟩
  | str t => exact h
theorem own_row {w : World} {B n : Nat} {e : TypeId} {v : Value} {xs : List Value} (h : w.ownsRow B e 1 v (n + 1) xs) : ∃ g c, v = .slice (some ⟨g, 0, none⟩) (n + 1) c ∧ B ≤ g ∧ g < w.heap.size ∧ ∀ k u, xs[k]? = some u → w.cell? ⟨g, k, none⟩ = some u := by
  rcases h.2 with ⟨_, h0⟩ | ⟨g, cap, cur, rfl, hb, hh, _⟩
  · exact absurd h0 (by omega)
  · refine ⟨g, cap, rfl, hb, (Array.getElem?_eq_some_iff.1 hh).1, fun k u hk => ?_⟩
    have := h.cells (g := g) rfl k u hk
    rw [Addr.add_lit] at this
    simpa using this
set_option maxRecDepth 100000 in
set_option maxHeartbeats 4000000 in
theorem texts_two (p q : ByteArray) (D c : Nat) (w : World) (hD : D < w.heap.size) (h0 : w.cell? ⟨D, 0, none⟩ = some (.string p)) (h1 : w.cell? ⟨D, 1, none⟩ = some (.string q)) :
    Calls Tryz.prog 16 #[.slice (some ⟨D, 0, none⟩) 2 c] w fun e w' => ∃ v, e = .returned v ∧ w'.ownsRow w.heap.size 50 1 v 2 [.iface 63 (.string p), .iface 63 (.string q)] ∧ Below w.heap.size w w' := by
  obtain ⟨i0, hi0, hz0, hz1, hz2⟩ := info_parts Tryz.infoV
  go_enter Tryz.func16, Tryz.ntmps16
  go_wp2_with fail
  refine wp_loop_rounds 3 ?_
  rw [rounds_succ]
  go_wp2_with (at_builtin; (refine wpList_append_one rfl (.tmp 11) (.tmp 14) 44 rfl w w.heap.size 50 i0 _ 16 Tryz.underlying44 hi0 hz0 hz1 hz2 rfl _ 0 [] (World.ownsRow_nil _ _ _ _) rfl (.iface 63 (.string p)) rfl rfl rfl (by unfold maxLen; omega) (by omega) (Nat.le_refl _) ?_; intro v1 w1 hown1 hb1 hg1))
  have g1 : w1.cell? ⟨D, 1, none⟩ = some (.string q) := (hb1.cell (p := ⟨D, 1, none⟩) hD).trans h1
  have HO1 := Lib.hid hown1
  have HB1 := Lib.hid hb1
  clear hown1 hb1 hg1 h0 h1
  go_wp2_with fail
  rw [rounds_succ]
  go_wp2_with (at_builtin; (refine wpList_append_one rfl (.tmp 11) (.tmp 14) 44 rfl w1 w.heap.size 50 i0 _ 16 Tryz.underlying44 hi0 hz0 hz1 hz2 rfl _ 1 [.iface 63 (.string p)] HO1.out rfl (.iface 63 (.string q)) rfl rfl rfl (by unfold maxLen; omega) (by omega) HB1.out.size ?_; intro v2 w2 hown2 hb2 hg2))
  have HO2 := Lib.hid hown2
  have HB2 := Lib.hid (HB1.out.trans hb2)
  clear hown2 hb2 hg2 g1
  go_wp2_with fail
  rw [rounds_succ]
  go_wp2
  go_ret
  exact ⟨_, rfl, HO2.out, HB2.out⟩
theorem of_text (t : ByteArray) (w : World) :
    Calls Tryz.prog 14 #[.iface 63 (.string t), .nilIface] w fun e w' => e = .returned (.tuple #[.string t, .bool true]) ∧ w = w' := by
  go_enter Tryz.func14, Tryz.ntmps14
  go_wp2
  go_ret2
  exact ⟨rfl, rfl⟩
/-- A count that is handed in, or none. -/
def CntV (w : World) (B : Nat) (v : Value) (c : Option Int) : Prop := (c = none ∧ v = .slice none 0 0) ∨ ∃ n S cap, c = some n ∧ v = .slice (some ⟨S, 0, none⟩) 1 cap ∧ ValsAt w B S [.int n]
theorem CntV.below {w w' : World} {B : Nat} {v : Value} {c : Option Int} (h : CntV w B v c) (hb : Below w.heap.size w w') : CntV w' B v c := by
  rcases h with h | ⟨n, S, cap, h1, h2, h3⟩
  · exact .inl h
  · exact .inr ⟨n, S, cap, h1, h2, h3.below hb⟩
def BPost (c : Option Int) (w : World) (e : Ending) (w' : World) : Prop := ∃ g m cc, e = .returned (.tuple #[.slice (some ⟨g, 0, none⟩) m cc, .bool true]) ∧ m + 2 = cntN c ∧ (∀ n, c = some n → w'.cell? ⟨g, 0, none⟩ = some (.iface 108 (.agg #[.int .i64 n, .pointer none]))) ∧ g < w'.heap.size ∧ Below w.heap.size w w'
set_option maxRecDepth 100000 in
set_option maxHeartbeats 4000000 in
theorem scalars_nil (w : World) :
    Calls Tryz.prog 27 #[.slice none 0 0] w fun e w' => ∃ g cc, e = .returned (.tuple #[.slice (some ⟨g, 0, none⟩) 0 cc, .bool true]) ∧ g < w'.heap.size ∧ Below w.heap.size w w' := by
  obtain ⟨i0, hi0, hz0, hz1, hz2⟩ := info_parts Tryz.infoV
  obtain ⟨W1, hmk, hown, hg⟩ := run_make_own (P := Tryz.prog) w w.heap.size 44 50 i0 _ 1 Tryz.underlying44 hi0 hz0 hz1 .i64 .i64 0 (by omega) (by unfold maxLen; omega) (Nat.le_refl _)
  have hmk0 : (Instr.makeSlice 44 (.int .i64 0) (.int .i64 0)).run Tryz.prog w = .ok (.slice (some ⟨w.heap.size, 0, none⟩) 0 0) W1 := hmk
  have hlt : w.heap.size < W1.heap.size := by
    rcases hown.2 with ⟨h, _⟩ | ⟨g, cap, cur, h, _, hh, _⟩
    · simp at h
    · injection h with h1 h2 h3
      injection h1 with h1
      injection h1 with h1
      subst h1
      exact (Array.getElem?_eq_some_iff.1 hh).1
  have HB := Lib.hid ((Below.refl w.heap.size w).grown hg (Nat.le_refl _) (by simp))
  clear hown hg
  go_enter Tryz.func27, Tryz.ntmps27
  go_wp2_with fail
  refine wp_loop_rounds 1 ?_
  rw [rounds_succ]
  go_wp2
  go_ret2
  exact ⟨_, _, rfl, hlt, HB.out⟩
theorem scalars_cnt (B : Nat) (v : Value) (c : Option Int) (w : World) (hv : CntV w B v c) (hc : ∀ n, c = some n → -2147483648 ≤ n ∧ n ≤ 2147483647) :
    Calls Tryz.prog 27 #[v] w (BPost c w) := by
  rcases hv with ⟨rfl, rfl⟩ | ⟨n, S, cap, rfl, rfl, hv⟩
  · refine (scalars_nil w).mono ?_
    rintro e w' ⟨g, cc, rfl, hg, hb⟩
    exact ⟨g, 0, cc, rfl, rfl, fun n hn => by simp at hn, hg, hb⟩
  · refine (scalars_any B S 1 cap [.int n] w hv rfl (by intro s hs; simp at hs; subst hs; exact hc n rfl) (by omega)).mono ?_
    rintro e w' ⟨v, rfl, hown, hb⟩
    obtain ⟨g, cc, rfl, _, hg, hcell⟩ := own_row hown
    exact ⟨g, 1, cc, rfl, rfl, fun m hm => by injection hm with hm; subst hm; exact hcell 0 _ rfl, hg, hb⟩
theorem bounds_cnt (B : Nat) (v : Value) (c : Option Int) (w : World) (hv : CntV w B v c) (hc : ∀ n, c = some n → -2147483648 ≤ n ∧ n ≤ 2147483647) :
    Calls Tryz.prog 13 #[v] w (BPost c w) := by
  have HS := Lib.hid (scalars_cnt B v c w hv hc)
  clear hv hc
  go_enter Tryz.func13, Tryz.ntmps13
  go_wp2_with fail
  refine HS.out.mono ?_
  rintro e w1 ⟨g, m, cc, rfl, hm, hcell, hg, hb⟩
  have HC := Lib.hid hcell
  have HB := Lib.hid hb
  have HM := Lib.hid hm
  clear hcell hb hm
  go_wp2
  go_ret2
  exact ⟨_, _, _, rfl, HM.out, HC.out, hg, HB.out⟩
end Go.Proofs.YthoemgnfklhgjaaGreatDoor
