/- The reference's integers: made of a sign and of bytes; told to the program. -/
import Derived.Test.YteibkaonofkcbaaGreatTupJoinB
set_option linter.unusedSimpArgs false
set_option linter.unusedVariables false
namespace Go.Proofs.YteibkaonofkcbaaGreat
open Go.RowKit
/-- An integer of the reference: its sign, its bytes. -/
def SInt (w : World) (B : Nat) (v : Value) (neg : Bool) (l : List Nat) : Prop := ∃ vs, v = .agg #[.bool neg, vs] ∧ OB w B vs l ∧ l.head? ≠ some 0 ∧ (neg = true → l ≠ [])
theorem SInt.below {w w' : World} {B : Nat} {v : Value} {neg : Bool} {l : List Nat} (h : SInt w B v neg l) (hb : Below w.heap.size w w') : SInt w' B v neg l := by
  obtain ⟨vs, hv, h1, h2⟩ := h
  exact ⟨vs, hv, h1.below hb, h2⟩
theorem SInt.base {w : World} {B C : Nat} {v : Value} {neg : Bool} {l : List Nat} (h : SInt w B v neg l) (hC : C ≤ B) : SInt w C v neg l := by
  obtain ⟨vs, hv, h1, h2⟩ := h
  exact ⟨vs, hv, h1.base hC, h2⟩
/-- An integer of the program's thin package. -/
def IVal (w : World) (B : Nat) (v : Value) (neg : Bool) (l : List Nat) : Prop := ∃ vs, v = .agg #[.int .i64 2, .bool neg, vs, .int .u64 0, .string ⟨#[]⟩, .slice none 0 0] ∧ OB w B vs l ∧ l.head? ≠ some 0 ∧ (neg = true → l ≠ [])
theorem IVal.below {w w' : World} {B : Nat} {v : Value} {neg : Bool} {l : List Nat} (h : IVal w B v neg l) (hb : Below w.heap.size w w') : IVal w' B v neg l := by
  obtain ⟨vs, hv, h1, h2⟩ := h
  exact ⟨vs, hv, h1.below hb, h2⟩
theorem IVal.base {w : World} {B C : Nat} {v : Value} {neg : Bool} {l : List Nat} (h : IVal w B v neg l) (hC : C ≤ B) : IVal w C v neg l := by
  obtain ⟨vs, hv, h1, h2⟩ := h
  exact ⟨vs, hv, h1.base hC, h2⟩
/-- The sign that is kept: 0 has none. -/
def negOf (neg : Bool) (l : List Nat) : Bool := neg && !(strip l).isEmpty
theorem OB.set {w : World} {B g n c : Nat} {v : Value} {l : List Nat} (h : OB w B v l) (hv : v = .slice (some ⟨g, 0, none⟩) n c) {p : Addr} (hp : ¬ g = p.block) (u : Value) : OB (w.setCell p u) B v l := by
  refine ⟨ownsRow_setCell_other h.1 (a := p) ?_ u, h.2⟩
  subst hv
  simpa [Value.ownBlock] using hp
def OfPost (neg : Bool) (l : List Nat) (w : World) (e : Ending) (w' : World) : Prop := ∃ v, e = .returned v ∧ SInt w' w.heap.size v (negOf neg l) (strip l) ∧ Below w.heap.size w w'
set_option maxHeartbeats 2000000 in
theorem of_any (neg : Bool) (a : Option Addr) (n cap : Nat) (l : List Nat) (w : World) (hb : BSl w (.slice a n cap) l) (hl : l.length ≤ 70368744177664) :
    Calls Tryz.prog 24 #[.bool neg, .slice a n cap] w (OfPost neg l w) := by
  have hB := Lib.hid (hb.old ((Below.refl _ w).alloc (Nat.le_refl _) (.cells #[.bool false, .slice none 0 0] 68)))
  have HL := Lib.hid hl
  have hK := Lib.hid (Blk.new w 68 #[.bool false, .slice none 0 0])
  clear hb hl
  go_enter Tryz.func24, Tryz.ntmps24
  go_wp2_with fail
  refine (cut_any a n cap l _ hB.out HL.out).mono ?_
  rintro e w1 ⟨v, rfl, hob, hb1⟩
  have k0 := hK.out.below hb1 hK.out.lt
  have c0 := k0.cell 0
  have c1 := k0.cell 1
  have f0 := k0.frozen 0
  have f1 := k0.frozen 1
  simp only [List.getElem?_toArray, List.getElem?_cons_zero, List.getElem?_cons_succ] at c0 c1
  obtain ⟨g, c, hv, hg1, hg2, _, _⟩ := hob.form
  have hgz : ¬ g = w.heap.size := by simp at hg1; omega
  have HOB := Lib.hid (hob.base (C := w.heap.size) (by simp))
  have hbw : Below w.heap.size w w1 := ((Below.refl _ w).alloc (Nat.le_refl _) _).trans (hb1.mono (by simp))
  have hlen : ((strip l).length : Int) = ((strip l).length : Int) := rfl
  obtain ⟨m, hm⟩ : ∃ m, m = (strip l).length := ⟨_, rfl⟩
  have HM := Lib.hid hm
  rw [← hm] at hv
  have HV := Lib.hid hv
  subst hv
  have HHEAD := Lib.hid (strip_head l)
  clear hb1 hob hB hK hg1 hg2 hlen hm
  cases neg with
  | false =>
    go_wp2
    refine bodyPost_ret (v := .agg #[.bool false, .slice (some ⟨g, 0, none⟩) m c]) (by simp [results, Tryz.results24, go_sem, c0, c1]) rfl ⟨_, rfl, ⟨.slice (some ⟨g, 0, none⟩) m c, rfl, ((OB.set (OB.set (v := .slice (some ⟨g, 0, none⟩) m c) HOB.out rfl (p := ⟨w.heap.size, 0, none⟩) hgz _) rfl (p := ⟨w.heap.size, 1, none⟩) hgz _)), HHEAD.out, fun h => by simp [negOf] at h⟩, (hbw.setCell (p := ⟨w.heap.size, 0, none⟩) (Nat.le_refl _) _).setCell (p := ⟨w.heap.size, 1, none⟩) (Nat.le_refl _) _⟩
  | true =>
    by_cases h0 : 0 < m
    · have hd : decide ((0 : Int) < (m : Int)) = true := by simp; omega
      have hnn : strip l ≠ [] := fun e => by have := HM.out; rw [e] at this; simp at this; omega
      have HNN := Lib.hid hnn
      have HNG : Hid (negOf true l = true) := by unfold Hid negOf; cases hs : strip l with | nil => exact absurd hs hnn | cons x r => rfl
      clear hnn
      go_wp2
      refine bodyPost_ret (v := .agg #[.bool true, .slice (some ⟨g, 0, none⟩) m c]) (by simp [results, Tryz.results24, go_sem, c0, c1]) rfl ⟨_, rfl, ⟨.slice (some ⟨g, 0, none⟩) m c, by rw [HNG.out], ((OB.set (OB.set (v := .slice (some ⟨g, 0, none⟩) m c) HOB.out rfl (p := ⟨w.heap.size, 0, none⟩) hgz _) rfl (p := ⟨w.heap.size, 1, none⟩) hgz _)), HHEAD.out, fun _ => HNN.out⟩, (hbw.setCell (p := ⟨w.heap.size, 0, none⟩) (Nat.le_refl _) _).setCell (p := ⟨w.heap.size, 1, none⟩) (Nat.le_refl _) _⟩
    · have hd : decide ((0 : Int) < (m : Int)) = false := by simp; omega
      have HNG : Hid (negOf true l = false) := by
        have : strip l = [] := List.eq_nil_of_length_eq_zero (by have := HM.out; omega)
        unfold Hid negOf; rw [this]; rfl
      go_wp2
      refine bodyPost_ret (v := .agg #[.bool false, .slice (some ⟨g, 0, none⟩) m c]) (by simp [results, Tryz.results24, go_sem, c0, c1]) rfl ⟨_, rfl, ⟨.slice (some ⟨g, 0, none⟩) m c, by rw [HNG.out], ((OB.set (OB.set (v := .slice (some ⟨g, 0, none⟩) m c) HOB.out rfl (p := ⟨w.heap.size, 0, none⟩) hgz _) rfl (p := ⟨w.heap.size, 1, none⟩) hgz _)), HHEAD.out, fun h => by rw [HNG.out] at h; simp at h⟩, (hbw.setCell (p := ⟨w.heap.size, 0, none⟩) (Nat.le_refl _) _).setCell (p := ⟨w.heap.size, 1, none⟩) (Nat.le_refl _) _⟩
end Go.Proofs.YteibkaonofkcbaaGreat
