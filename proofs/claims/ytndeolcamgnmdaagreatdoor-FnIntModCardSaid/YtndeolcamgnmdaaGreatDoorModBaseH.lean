/- Joined texts: Told, Whole. -/
import Derived.Test.YtndeolcamgnmdaaGreatDoorModBaseA
set_option linter.unusedVariables false
set_option linter.unusedSimpArgs false
set_option linter.unnecessarySimpa false
namespace Go.Proofs.YtndeolcamgnmdaaGreatDoor
open Go.RowKit
def ToldPost (neg : Bool) (l : List Nat) (w : World) (e : Ending) (w' : World) : Prop := ∃ v, e = .returned v ∧ IVal w' w.heap.size v neg l ∧ Below w.heap.size w w'
set_option maxHeartbeats 2000000 in
theorem told_any (B : Nat) (v : Value) (neg : Bool) (l : List Nat) (w : World) (hv : SInt w B v neg l) (hl : l.length ≤ 70368744177664) :
    Calls Tryz.prog 7 #[v] w (ToldPost neg l w) := by
  obtain ⟨vs, rfl, hob, hh, hn⟩ := hv
  obtain ⟨g, c, hvs, hg1, hg2, _, _⟩ := hob.form
  obtain ⟨m, hm⟩ : ∃ m, m = l.length := ⟨_, rfl⟩
  rw [← hm] at hvs
  subst hvs
  have HS : Hid (∀ W', Below w.heap.size w W' → BSl W' (.slice (some ⟨g, 0, none⟩) m c) l) := fun W' h => BSl.old hob.bsl h
  have HL := Lib.hid hl
  have HH := Lib.hid hh
  have HN := Lib.hid hn
  clear hob hh hn hl hm hg1 hg2
  go_enter Tryz.func7, Tryz.ntmps7
  go_wp2_with fail
  go_region_law ((refine step_app_bsl (l := l) rfl (.tmp 5) (.tmp 7) rfl (w.heap.size + 1 + 1) rfl rfl (ob_new_at _ _ _ (by simp) (Nat.le_refl _)) (HS.out _ (((((Below.refl _ w).alloc (Nat.le_refl _) _).alloc (by simp) _).alloc (by simp; omega) _).drew)) (by have := HL.out; simp; omega) (by simp) ?_; intro v5 w5 hob5 hb5 hg5; obtain ⟨g5, c5, hv5, hq5, hr5, _, _⟩ := hob5.form; have HOB := Lib.hid hob5; rw [hv5] at HOB ⊢; have k1 := Lib.hid (Blk.below (w' := w5) (Blk.drew (Blk.alloc (Blk.new_at (w.alloc (.cells #[.bool neg, .slice (some ⟨g, 0, none⟩) m c] 24)) 28 #[.int .i64 0, .bool false, .slice none 0 0, .int .u64 0, .string ⟨#[]⟩, .slice none 0 0] (n := w.heap.size + 1) (by simp)) (.cells #[] 5))) hb5 (by omega)); have HB5 := Lib.hid hb5; obtain ⟨e0, e1, e2, e3, e4, e5, f0, f1, f2, f3, f4, f5⟩ := blk6 k1.out; obtain ⟨d0, d1, _, _⟩ := blk2 (Blk.below (w' := w5) (Blk.drew (Blk.alloc (Blk.alloc (Blk.new w 24 #[.bool neg, .slice (some ⟨g, 0, none⟩) m c]) (.cells #[.int .i64 0, .bool false, .slice none 0 0, .int .u64 0, .string ⟨#[]⟩, .slice none 0 0] 28)) (.cells #[] 5))) hb5 (by omega)); clear hob5 hb5 hg5 hv5))
  all_goals
    go_wp2
    refine bodyPost_ret (v := .agg #[.int .i64 2, .bool neg, .slice (some ⟨g5, 0, none⟩) l.length c5, .int .u64 0, .string ⟨#[]⟩, .slice none 0 0]) (by simp [results, Tryz.results7, go_sem, e0, e1, e2, e3, e4, e5]) rfl ⟨_, rfl, ⟨_, rfl, ?_, HH.out, HN.out⟩, ?_⟩
    · have h := (HOB.out.only (six_set w5 (w.heap.size + 1) (.int .i64 2) (.bool neg) (.slice (some ⟨g5, 0, none⟩) l.length c5) (.int .u64 0) (.string ⟨#[]⟩) (.slice none 0 0)) (fun k hk e => by omega)).base (C := w.heap.size) (by omega)
      exact h
    · have h := told_below w w5 _ _ HB5.out
      exact h.trans ((six_set w5 (w.heap.size + 1) (.int .i64 2) (.bool neg) (.slice (some ⟨g5, 0, none⟩) l.length c5) (.int .u64 0) (.string ⟨#[]⟩) (.slice none 0 0)).to_below h.size (fun k _ e => by omega))
end Go.Proofs.YtndeolcamgnmdaaGreatDoor
set_option linter.unusedVariables false
set_option linter.unusedSimpArgs false
set_option linter.unnecessarySimpa false
namespace Go.Proofs.YtndeolcamgnmdaaGreatDoor
open Go.RowKit
theorem whole_below (w1 w3 : World) (o : Obj) (h : Below (w1.alloc o).drew.heap.size (w1.alloc o).drew w3) : Below w1.heap.size w1 w3 :=
  (((Below.refl _ w1).alloc (Nat.le_refl _) o).drew).trans (h.mono (by simp))
theorem whole_x (w1 w3 : World) (t : TypeId) (a b : Value) (h : Below (w1.alloc (.cells #[a, b] t)).drew.heap.size (w1.alloc (.cells #[a, b] t)).drew w3) : Blk w3 w1.heap.size t #[a, b] :=
  (Blk.new w1 t #[a, b]).drew.below h (by simp)
def WholePost (neg : Bool) (l : List Nat) (w : World) (e : Ending) (w' : World) : Prop :=
  ∃ v u, e = .returned (.tuple #[v, u]) ∧ SInt w' w.heap.size v (negOf neg l) (strip l) ∧ IVal w' w.heap.size u (negOf neg l) (strip l) ∧ Below w.heap.size w w'
theorem whole_fin {neg nb : Bool} {l : List Nat} (w w1 w3 w4 : World) (v u : Value) (hnb : nb = negOf neg l) (h1 : SInt w3 (w.heap.size + 2) v nb (strip l)) (h2 : IVal w3 w1.heap.size u nb (strip l)) (hb : Below w.heap.size w w1) (hb3 : Below w1.heap.size w1 w3) (hz : w.heap.size + 2 ≤ w1.heap.size)
    (hO : Only (fun k => w.heap.size ≤ k ∧ k < w.heap.size + 2) w3 w4) : WholePost neg l w (.returned (.tuple #[v, u])) w4 := by
  subst hnb
  obtain ⟨vs, rfl, ho, hr⟩ := h1
  obtain ⟨us, rfl, hp, hs⟩ := h2
  have hb' := hb.trans (hb3.mono hb.size)
  exact ⟨_, _, rfl, ⟨vs, rfl, (ho.only hO (fun k hk e => by omega)).base (by omega), hr⟩, ⟨us, rfl, (hp.only hO (fun k hk e => by omega)).base hb.size, hs⟩, hb'.trans (hO.to_below hb'.size (fun k _ e => e.1))⟩
set_option maxRecDepth 20000 in
set_option maxHeartbeats 4000000 in
theorem whole_at (neg : Bool) (a : Option Addr) (n cap K m : Nat) (l : List Nat) (w : World) (hb : BSl w (.slice a n cap) l) (hK : K ≤ 1000) (hm : (n ≤ K ∧ m = n) ∨ (K < n ∧ m = K)) :
    Calls Tryz.prog 4 #[.bool neg, .slice a n cap, .int .i64 (K : Int)] w (WholePost neg (l.take m) w) := by
  have hncap : n ≤ cap ∧ cap ≤ maxLen ∧ n = l.length := by obtain ⟨a', c', hv, h1, h2, _⟩ := hb; injection hv with e1 e2 e3; subst e2 e3; exact ⟨h1, h2, rfl⟩
  obtain ⟨hnc, hcm, hnl⟩ := hncap
  unfold maxLen at hcm
  obtain ⟨sv, hsv⟩ : ∃ sv, sv = Value.slice (if cap = 0 then a else a.map (·.add (0 * 1))) m cap := ⟨_, rfl⟩
  have hbs := hb.to m (by omega)
  rw [← hsv] at hbs
  have hsl := fun W => slice_to W a n cap m (by omega)
  rw [← hsv] at hsl
  obtain ⟨sa, hsa⟩ : ∃ sa, sv = .slice sa m cap := ⟨_, hsv⟩
  clear hsv hb
  subst hsa
  have hm1000 : m ≤ 1000 := by omega
  have hlm : (l.take m).length ≤ 70368744177664 := by rw [List.length_take]; omega
  have HB : Hid (∀ W', Below w.heap.size w W' → BSl W' (.slice sa m cap) (l.take m)) := fun W' h => hbs.old h
  have HLM := Lib.hid hlm
  clear hbs hlm hnl
  rcases hm with ⟨h1, rfl⟩ | ⟨h1, rfl⟩
  all_goals
    go_enter Tryz.func4, Tryz.ntmps4
    go_wp2_with fail
    refine (of_any neg sa m cap (l.take m) _ (HB.out _ (((Below.refl _ w).alloc (Nat.le_refl _) _).alloc (by simp) _)) HLM.out).mono ?_
    rintro e w1 ⟨v, rfl, hsi, hb1⟩
    have k0 := Lib.hid (Blk.below (w' := w1) (Blk.alloc (Blk.new w 24 #[.bool false, .slice none 0 0]) (.cells #[.int .i64 0, .bool false, .slice none 0 0, .int .u64 0, .string ⟨#[]⟩, .slice none 0 0] 28)) hb1 (by simp; omega))
    have k1 := Lib.hid (Blk.below (w' := w1) (Blk.new_at (w.alloc (.cells #[.bool false, .slice none 0 0] 24)) 28 #[.int .i64 0, .bool false, .slice none 0 0, .int .u64 0, .string ⟨#[]⟩, .slice none 0 0] (n := w.heap.size + 1) (by simp)) hb1 (by simp))
    have hz1 : w.heap.size + 2 ≤ w1.heap.size := by have := hb1.size; simp at this; omega
    have hbw := Lib.hid (show Below w.heap.size w w1 from (((Below.refl _ w).alloc (Nat.le_refl _) _).alloc (by simp) _).trans (hb1.mono (by simp; omega)))
    have hsi2 := hsi.base (C := w.heap.size + 2) (by simp)
    obtain ⟨nb, hnb⟩ : ∃ nb, nb = negOf neg (l.take m) := ⟨_, rfl⟩
    rw [← hnb] at hsi2
    have HNB := Lib.hid hnb
    have HS := Lib.hid hsi2
    obtain ⟨vs, rfl, hob, _, _⟩ := hsi2
    obtain ⟨g, c, hvs, hg1, hg2, _, _⟩ := hob.form
    obtain ⟨r, hr⟩ : ∃ r, r = (strip (l.take m)).length := ⟨_, rfl⟩
    rw [← hr] at hvs
    subst hvs
    have HSB := Lib.hid (show (strip (l.take m)).length ≤ 70368744177664 from Nat.le_trans (strip_le _) HLM.out)
    clear hb1 hsi hnb hob hr hsl
    go_wp2_with fail
    go_region_with ((go_at_call 7; refine (told_any _ _ nb (strip (l.take m)) _ (HS.out.below ((Below.refl _ w1).alloc (Nat.le_refl _) _).drew) HSB.out).mono ?_; rintro e w3 ⟨u, rfl, hiv, hb3⟩; have hb3' := whole_below w1 w3 _ hb3; have K0 := Lib.hid (k0.out.below hb3' k0.out.lt); have K1 := Lib.hid (k1.out.below hb3' k1.out.lt); have HS3 := Lib.hid (HS.out.below hb3'); have HI3 := Lib.hid (hiv.base (C := w1.heap.size) (by simp)); have hB3 := Lib.hid hb3'; obtain ⟨us, rfl, hob3, _, _⟩ := hiv; obtain ⟨g3, c3, hus, hg3, _, _, _⟩ := hob3.form; rw [hus] at HI3 ⊢; obtain ⟨a0, a1, fa0, fa1⟩ := blk2 K0.out; obtain ⟨e0, e1, e2, e3, e4, e5, f0, f1, f2, f3, f4, f5⟩ := blk6 K1.out; obtain ⟨x0, x1, _, _⟩ := blk2 (whole_x w1 w3 24 _ _ hb3); clear hb3 hb3' hob3 hus))
    all_goals
      go_wp2
      refine bodyPost_ret (v := .tuple #[.agg #[.bool nb, .slice (some ⟨g, 0, none⟩) r c], .agg #[.int .i64 2, .bool nb, .slice (some ⟨g3, 0, none⟩) (strip (l.take m)).length c3, .int .u64 0, .string ⟨#[]⟩, .slice none 0 0]]) (by simp [results, Tryz.results4, go_sem, a0, a1, e0, e1, e2, e3, e4, e5]) rfl ?_
      refine whole_fin w w1 w3 _ _ _ HNB.out HS3.out HI3.out hbw.out hB3.out hz1 ?_
      repeat (first | (with_reducible exact Only.refl _ _) | (with_reducible refine Only.setCell ?_ (.inl ?_) _))
      all_goals (simp only []; omega)
end Go.Proofs.YtndeolcamgnmdaaGreatDoor
