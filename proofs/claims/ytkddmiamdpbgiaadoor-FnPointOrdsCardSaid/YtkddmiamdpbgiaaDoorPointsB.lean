/- The loops over the code points: the package's list, the thin package's numbers. -/
import Derived.Test.YtkddmiamdpbgiaaDoorPoints
namespace Go.Proofs.YtkddmiamdpbgiaaDoor
open Go.RowKit
theorem Tryd.infoVal : (Tryd.prog.info? 59).map (fun i => (i.zero, i.size, i.bytes)) = some (some .nilIface, 1, 16) := by kernel_rfl
theorem Tryd.infoInt : (Tryd.prog.info? 3).map (fun i => (i.zero, i.size, i.bytes)) = some (some (.int .i64 0), 1, 8) := by kernel_rfl
set_option maxRecDepth 20000 in
set_option maxHeartbeats 1600000 in
theorem next_end (s : ByteArray) (hs : s.size ≤ 1000) (bi bv : Nat) (x : Value) (w : World) (hI : ItAt w s bi bv s.size x) :
    Calls Tryd.prog 35 #[.pointer (some ⟨bi, 0, none⟩), .pointer (some ⟨bv, 0, none⟩)] w fun e w' => e = .returned (.bool false) ∧ Below w.heap.size w w' := by
  obtain ⟨k0, k1, hne⟩ := hI
  have hemp : (s.extract s.size s.size).toList.isEmpty = true := emp_true (by simp)
  have c0 := k0.cell 0
  have c2 := k0.cell 2
  simp only [List.getElem?_toArray, List.getElem?_cons_zero, List.getElem?_cons_succ] at c0 c2
  clear k0 k1
  go_enter Tryd.func35, Tryd.ntmps35
  go_wp2_with fail
  go_quiet (fail)
  go_wp2
  go_ret
  exact ⟨rfl, below_dn (Below.refl _ _) _⟩
def ptVals (l : List Int) : List Value := l.map fun r => .iface 82 (.agg #[.int .i64 r, .pointer none])
def OwnV (w : World) (B : Nat) (v : Value) (l : List Int) : Prop := w.ownsRow B 59 1 v l.length (ptVals l)
theorem OwnV.more {w : World} {B : Nat} {v : Value} {l : List Int} {r : Int} (h : w.ownsRow B 59 1 v (l.length + 1) (ptVals l ++ [.iface 82 (.agg #[.int .i64 r, .pointer none])])) : OwnV w B v (l ++ [r]) := by
  unfold OwnV ptVals; simpa [ptVals] using h
theorem OwnV.more_raw {w : World} {B : Nat} {v : Value} {l : List Int} {r : Int} (h : w.ownsRow B 59 1 v (l.length + 1) (ptVals l ++ [.iface 82 (.agg #[.int .i64 r, .pointer none])])) : w.ownsRow B 59 1 v (l ++ [r]).length (ptVals (l ++ [r])) := by
  simpa [ptVals] using h
theorem own_base {w : World} {B C : Nat} {e : TypeId} {size : Nat} {v : Value} {n : Nat} {xs : List Value} (h : w.ownsRow B e size v n xs) (hC : C ≤ B) : w.ownsRow C e size v n xs := by
  refine ⟨h.1, ?_⟩
  rcases h.2 with h0 | ⟨g, cap, cur, hv, hb, hrest⟩
  · exact .inl h0
  · exact .inr ⟨g, cap, cur, hv, Nat.le_trans hC hb, hrest⟩
/-- The place where the iterator in a block stands. -/
def posOf (w : World) (b : Nat) : Nat := match w.cell? ⟨b, 2, none⟩ with
  | some (.int _ n) => n.toNat
  | _ => 0
theorem posOf_it {w : World} {s : ByteArray} {bi bv pos : Nat} {x : Value} (h : ItAt w s bi bv pos x) : posOf w bi = pos := by
  have c2 := h.1.cell 2
  simp only [List.getElem?_toArray, List.getElem?_cons_zero, List.getElem?_cons_succ] at c2
  unfold posOf
  rw [c2]
  simp
theorem ItAt.grown {w w' : World} {s : ByteArray} {bi bv pos : Nat} {x : Value} {row : Option Nat} (h : ItAt w s bi bv pos x) (hg : w.grownBy w' row) (h1 : some bi ≠ row) (h2 : some bv ≠ row) : ItAt w' s bi bv pos x :=
  ⟨h.1.grown hg h1, h.2.1.grown hg h2, h.2.2⟩
set_option maxRecDepth 20000 in
set_option maxHeartbeats 1600000 in
theorem zz_points (s : ByteArray) (hs : s.size ≤ 1000) (w : World) (hT : Tabs w) :
    Calls Tryd.prog 26 #[.bool true, .string s] w fun e w' => ∃ v, e = .returned v ∧ OwnV w' w.heap.size v (runesOf s) ∧ Below w.heap.size w w' := by
  obtain ⟨i0, hi, hz0, hz1, hz2⟩ := info_parts Tryd.infoVal
  have hg : 5 < w.heap.size := World.block_lt_of_cell? w _ (hT.2 0 (by decide)).1
  have HT := Lib.hid hT
  clear hT
  go_enter Tryd.func26, Tryd.ntmps26
  go_wp2_with fail
  go_loopw [4] (fun v wr => ∃ (pos : Nat) (x : Value) (acc : List Int) (f : Nat), pos ≤ s.size ∧ ItAt wr s w.heap.size (w.heap.size + 1) pos x ∧ Hid (acc ++ pts s f pos = runesOf s) ∧ s.size - pos ≤ f ∧ wr.ownsRow (w.heap.size + 2) 59 1 v acc.length (ptVals acc) ∧ Below w.heap.size w wr)
    (fun _ wr => s.size - posOf wr w.heap.size)
  case atStart =>
    exact ⟨0, .nilIface, [], s.size, Nat.zero_le _, ⟨(Blk.new _ _ _).alloc _, Blk.new_at _ _ _ (by simp), by omega⟩, rfl, Nat.le_refl _, World.ownsRow_nil _ _ _ _, ((Below.refl _ _).alloc (Nat.le_refl _) _).alloc (by simp) _⟩
  case round =>
    obtain ⟨pos, x, acc, f, hp, hI, hA, hf, hown, hb⟩ := hrel
    have HI := Lib.hid hI
    have hP := Lib.hid (posOf_it hI)
    have hz := hb.size
    by_cases hlt : pos < s.size
    · obtain ⟨f', rfl, hpt, hf'⟩ := pts_more hlt hf
      have hA' := hA.out
      rw [hpt, ← List.singleton_append, ← List.append_assoc] at hA'
      have HA := Lib.hid hA'
      have HTr := Lib.hid (tabs_below HT.out hb)
      have hal : acc.length ≤ 1000 := by
        have h1 := congrArg List.length hA.out
        have h2 := pts_len s s.size 0
        unfold runesOf at h1
        rw [List.length_append] at h1
        omega
      clear hA' hpt hA hI
      go_wp2_with fail
      refine (next_any s hs w.heap.size (w.heap.size + 1) pos x _ hlt HI.out HTr.out hg (by omega)).mono ?_
      rintro e w1 ⟨rfl, hI1, hO⟩
      have hown1 : w1.ownsRow (w.heap.size + 2) 59 1 u4 acc.length (ptVals acc) := own_only hown hO (fun g hg => by
        have := (hown.lt g hg).1
        intro e1
        rcases e1 with e1 | e1 <;> omega)
      have hbw : Below w.heap.size w w1 := hb.trans (hO.to_below hb.size (fun k _ hk => by rcases hk with hk | hk <;> omega))
      have hzb := hbw.size
      have d3 := hI1.2.1.cell 0
      simp only [List.getElem?_toArray, List.getElem?_cons_zero] at d3
      have hzz : w.heap.size + 2 ≤ w1.heap.size := by have := hI1.2.1.lt; omega
      have HI1 := Lib.hid hI1
      clear hO hown hb hI1 hz
      obtain ⟨r, hr⟩ : ∃ r : Int, r = ((Utf8.decode s pos).1 : Int) := ⟨_, rfl⟩
      rw [← hr] at d3 HA
      rw [← hr] at HI1
      clear hr
      go_wp2_with (at_builtin; refine wpList_append_one rfl (.tmp 14) (.tmp 16) 47 rfl _ (w.heap.size + 2) 59 i0 _ 16 Tryd.underlying47 hi hz0 hz1 hz2 rfl _ acc.length _ hown1 rfl (.iface 82 (.agg #[.int .i64 r, .pointer none])) rfl rfl rfl (by unfold maxLen; omega) (by omega) hzz ?_)
      intro v2 w2 hown2 hb2 hg2
      have hI2 := HI1.out.grown hg2 (fun e => by have := (hown1.lt _ e.symm).1; omega) (fun e => by have := (hown1.lt _ e.symm).1; omega)
      have hb3 : Below w.heap.size w w2 := hbw.trans (Below.mono hb2 (by omega))
      have HI2 := Lib.hid hI2
      have HO2 := Lib.hid hown2
      have HB3 := Lib.hid hb3
      have hP2 := Lib.hid (posOf_it hI2)
      have hw2 := width_le s pos hlt
      have hw1 := Lib.decode_width_pos s pos hlt
      clear hI2 hown2 hb3 hown1 hbw hb2 hg2 d3 HI1 HI HTr
      go_wp2
      go_round
      case rel => exact ⟨pos + (Utf8.decode s pos).2, _, acc ++ [r], f', hw2, HI2.out, HA.out, hf', OwnV.more_raw HO2.out, HB3.out⟩
      case measure => rw [hP.out, hP2.out]; omega
    · have hpe : pos = s.size := by omega
      subst hpe
      have hA' := hA.out
      rw [pts_end hlt, List.append_nil] at hA'
      have HA := Lib.hid hA'
      have HO := Lib.hid hown
      have HB := Lib.hid hb
      clear hA' hA hown hI hb
      go_wp2_with fail
      refine (next_end s hs w.heap.size (w.heap.size + 1) x _ HI.out).mono ?_
      rintro e w1 ⟨rfl, hb1⟩
      have HB1 := Lib.hid hb1
      clear hb1
      go_wp2
      go_ret
      refine ⟨_, rfl, ?_, HB.out.trans (Below.mono HB1.out (by omega))⟩
      unfold OwnV
      rw [← HA.out]
      exact own_base (own_below HO.out HB1.out) (by omega)
end Go.Proofs.YtkddmiamdpbgiaaDoor
