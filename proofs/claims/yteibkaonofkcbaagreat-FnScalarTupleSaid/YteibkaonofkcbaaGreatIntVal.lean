/- An integer of the reference as a value of the program. -/
import Derived.Test.YteibkaonofkcbaaGreatTupJoinC
set_option linter.unusedSimpArgs false
set_option linter.unusedVariables false
namespace Go.Proofs.YteibkaonofkcbaaGreat
open Go.RowKit
def ToldPost (neg : Bool) (l : List Nat) (w : World) (e : Ending) (w' : World) : Prop := ∃ v, e = .returned v ∧ IVal w' w.heap.size v neg l ∧ Below w.heap.size w w'
set_option maxHeartbeats 2000000 in
theorem intval_any (B : Nat) (v : Value) (neg : Bool) (l : List Nat) (w : World) (hv : SInt w B v neg l) (hl : l.length ≤ 70368744177664) :
    Calls Tryz.prog 23 #[v] w (ToldPost neg l w) := by
  obtain ⟨vs, rfl, hob, hh, hn⟩ := hv
  obtain ⟨g, c, hvs, hg1, hg2, _, _⟩ := hob.form
  obtain ⟨m, hm⟩ : ∃ m, m = l.length := ⟨_, rfl⟩
  rw [← hm] at hvs
  subst hvs
  have HS : Hid (∀ W', Below w.heap.size w W' → BSl W' (.slice (some ⟨g, 0, none⟩) m c) l) := fun W' h => BSl.old hob.bsl h
  have HL := Lib.hid hl
  have HH := Lib.hid hh
  have HN := Lib.hid hn
  clear hob hh hn hl hm hg1 hg2
  go_enter Tryz.func23, Tryz.ntmps23
  go_wp2_with fail
  go_region_law ((refine step_app_bsl (l := l) rfl (.tmp 5) (.tmp 7) rfl (w.heap.size + 1 + 1) rfl rfl (ob_new_at _ _ _ (by simp) (Nat.le_refl _)) (HS.out _ (((((Below.refl _ w).alloc (Nat.le_refl _) _).alloc (by simp) _).alloc (by simp; omega) _).drew)) (by have := HL.out; simp; omega) (by simp) ?_; intro v5 w5 hob5 hb5 hg5; obtain ⟨g5, c5, hv5, hq5, hr5, _, _⟩ := hob5.form; have HOB := Lib.hid hob5; rw [hv5] at HOB ⊢; have k1 := Lib.hid (Blk.below (w' := w5) (Blk.drew (Blk.alloc (Blk.new_at (w.alloc (.cells #[.bool neg, .slice (some ⟨g, 0, none⟩) m c] 68)) 33 #[.int .i64 0, .bool false, .slice none 0 0, .int .u64 0, .string ⟨#[]⟩, .slice none 0 0] (n := w.heap.size + 1) (by simp)) (.cells #[] 5))) hb5 (by omega)); have HB5 := Lib.hid hb5; obtain ⟨e0, e1, e2, e3, e4, e5, f0, f1, f2, f3, f4, f5⟩ := blk6 k1.out; obtain ⟨d0, d1, _, _⟩ := blk2 (Blk.below (w' := w5) (Blk.drew (Blk.alloc (Blk.alloc (Blk.new w 68 #[.bool neg, .slice (some ⟨g, 0, none⟩) m c]) (.cells #[.int .i64 0, .bool false, .slice none 0 0, .int .u64 0, .string ⟨#[]⟩, .slice none 0 0] 33)) (.cells #[] 5))) hb5 (by omega)); clear hob5 hb5 hg5 hv5))
  all_goals
    go_wp2
    refine bodyPost_ret (v := .agg #[.int .i64 2, .bool neg, .slice (some ⟨g5, 0, none⟩) l.length c5, .int .u64 0, .string ⟨#[]⟩, .slice none 0 0]) (by simp [results, Tryz.results23, go_sem, e0, e1, e2, e3, e4, e5]) rfl ⟨_, rfl, ⟨_, rfl, ?_, HH.out, HN.out⟩, ?_⟩
    · have h := (HOB.out.only (six_set w5 (w.heap.size + 1) (.int .i64 2) (.bool neg) (.slice (some ⟨g5, 0, none⟩) l.length c5) (.int .u64 0) (.string ⟨#[]⟩) (.slice none 0 0)) (fun k hk e => by omega)).base (C := w.heap.size) (by omega)
      exact h
    · have h := told_below w w5 _ _ HB5.out
      exact h.trans ((six_set w5 (w.heap.size + 1) (.int .i64 2) (.bool neg) (.slice (some ⟨g5, 0, none⟩) l.length c5) (.int .u64 0) (.string ⟨#[]⟩) (.slice none 0 0)).to_below h.size (fun k _ e => by omega))
end Go.Proofs.YteibkaonofkcbaaGreat
