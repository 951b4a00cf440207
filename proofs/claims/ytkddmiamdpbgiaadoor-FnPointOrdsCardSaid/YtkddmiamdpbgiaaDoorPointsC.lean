/- The thin package's numbers of the code points; the law's walk. -/
import Derived.Test.YtkddmiamdpbgiaaDoorPointsB
namespace Go.Proofs.YtkddmiamdpbgiaaDoor
open Go.RowKit
@[go_sem] theorem Tryd.assertInt (v : Value) (w : World) : (Instr.typeAssert (.iface 82 v) 59 82 true).run Tryd.prog w = .ok (.tuple #[v, .bool true]) w := by kernel_rfl
set_option maxRecDepth 20000 in
set_option maxHeartbeats 1600000 in
theorem of_number (n : Int) (w : World) :
    Calls Tryd.prog 34 #[.iface 82 (.agg #[.int .i64 n, .pointer none]), .nilIface] w fun e w' => e = .returned (.tuple #[.int .i64 n, .bool true]) ∧ Below w.heap.size w w' := by
  go_enter Tryd.func34, Tryd.ntmps34
  go_wp2_with fail
  refine (int64_small n _).mono ?_
  rintro e w1 ⟨rfl, hb⟩
  have hbn : Below w.heap.size w w1 := ((Below.refl _ w).alloc (Nat.le_refl _) _).trans (hb.mono (by simp))
  clear hb
  go_wp2
  go_ret2
  exact ⟨rfl, hbn⟩
/-- The cells of an owned list. -/
theorem OwnV.at_ {w : World} {B : Nat} {v : Value} {l : List Int} (h : OwnV w B v l) : ∃ A c, v = .slice A l.length c ∧ ∀ (k : Nat) (x : Int), l[k]? = some x → ∃ g : Addr, A = some g ∧ B ≤ g.block ∧ w.cell? (g.add k) = some (.iface 82 (.agg #[.int .i64 x, .pointer none])) := by
  rcases h.2 with ⟨rfl, h0⟩ | ⟨g, cap, cur, rfl, hb, _⟩
  · refine ⟨none, 0, by rw [h0], fun k x hx => ?_⟩
    have : l = [] := List.eq_nil_of_length_eq_zero h0
    subst this
    simp at hx
  · refine ⟨_, cap, rfl, fun k x hx => ⟨_, rfl, hb, ?_⟩⟩
    have hc := World.ownsRow.cells h (g := g) rfl k (.iface 82 (.agg #[.int .i64 x, .pointer none])) (by simp [ptVals, hx])
    exact hc
def OwnI (w : World) (B : Nat) (v : Value) (l : List Int) : Prop := w.ownsRow B 3 1 v l.length (l.map fun x => Value.int .i64 x)
theorem OwnI.at_ {w : World} {B : Nat} {v : Value} {l : List Int} (h : OwnI w B v l) : ∃ A c, v = .slice A l.length c ∧ ∀ (k : Nat) (x : Int), l[k]? = some x → ∃ g : Addr, A = some g ∧ w.cell? (g.add k) = some (.int .i64 x) := by
  rcases h.2 with ⟨rfl, h0⟩ | ⟨g, cap, cur, rfl, hb, _⟩
  · refine ⟨none, 0, by rw [h0], fun k x hx => ?_⟩
    have : l = [] := List.eq_nil_of_length_eq_zero h0
    subst this
    simp at hx
  · refine ⟨_, cap, rfl, fun k x hx => ⟨_, rfl, ?_⟩⟩
    have hc := World.ownsRow.cells h (g := g) rfl k (.int .i64 x) (by simp [hx])
    exact hc
set_option maxRecDepth 20000 in
set_option maxHeartbeats 1600000 in
theorem of_numbers (l : List Int) (v : Value) (B : Nat) (w : World) (hl : l.length ≤ 1000) (hown : OwnV w B v l) :
    Calls Tryd.prog 25 #[v] w fun e w' => ∃ v', e = .returned v' ∧ OwnI w' w.heap.size v' l ∧ Below w.heap.size w w' := by
  obtain ⟨i0, hi, hz0, hz1, hz2⟩ := info_parts Tryd.infoInt
  have HOW := Lib.hid hown
  obtain ⟨A, c, rfl, hc⟩ := hown.at_
  have HC := Lib.hid hc
  clear hown hc
  go_enter Tryd.func25, Tryd.ntmps25
  go_wp2_with fail
  go_loopw [2, 9] (fun v i wr => ∃ k : Nat, k ≤ l.length ∧ i = .int .i64 k ∧ wr.ownsRow w.heap.size 3 1 v k ((l.take k).map fun x => Value.int .i64 x) ∧ Below w.heap.size w wr) (fun _ i _ => l.length - (intOf i).toNat)
  case atStart => exact ⟨0, Nat.zero_le _, rfl, World.ownsRow_nil _ _ _ _, Below.refl _ _⟩
  case round =>
    obtain ⟨k, hk, rfl, hown, hb⟩ := hrel
    by_cases hlt : k < l.length
    · obtain ⟨x, hx⟩ : ∃ x, l[k]? = some x := ⟨_, List.getElem?_eq_getElem hlt⟩
      obtain ⟨g, rfl, _, hg⟩ := HC.out k x hx
      have hgr := (hb.cell (World.block_lt_of_cell? w _ hg)).trans hg
      have htk : (l.take k).map (fun x => Value.int .i64 x) ++ [.int .i64 x] = (l.take (k + 1)).map (fun x => Value.int .i64 x) := by
        rw [List.take_add_one, hx, List.map_append]
        rfl
      have HTK := Lib.hid htk
      have HO := Lib.hid hown
      have HB := Lib.hid hb
      have hz := hb.size
      clear hg hx htk hown hb
      go_wp2_with fail
      refine (of_number x _).mono ?_
      rintro e w1 ⟨rfl, hb1⟩
      have hown1 := own_below HO.out hb1
      have hb1' := HB.out.trans (hb1.mono hz)
      have hzb := hb1'.size
      clear hb1 hgr HO HB
      go_wp2_with (at_builtin; refine wpList_append_one rfl (.tmp 18) (.tmp 20) 31 rfl _ w.heap.size 3 i0 _ 8 Tryd.underlying31 hi hz0 hz1 hz2 rfl _ k _ hown1 rfl (.int .i64 x) rfl rfl rfl (by unfold maxLen; omega) (by omega) hzb ?_)
      intro v2 w2 hown2 hb2 _
      rw [← List.map_take, HTK.out] at hown2
      have HO2 := Lib.hid hown2
      have HB2 := Lib.hid (hb1'.trans hb2)
      clear hown2 hb2 hown1 hb1'
      go_wp2
      go_round
      case rel => exact ⟨k + 1, by omega, by go_num, HO2.out, HB2.out⟩
      case measure => simp [intOf]; omega
    · have hke : k = l.length := by omega
      subst hke
      rw [List.take_length] at hown
      have HO := Lib.hid hown
      have HB := Lib.hid hb
      clear hown hb
      go_wp2
      go_ret
      exact ⟨_, rfl, HO.out, HB.out⟩
theorem runesOf_len (s : ByteArray) : (runesOf s).length ≤ s.size := pts_len s _ _
set_option maxHeartbeats 800000 in
theorem point_ords (s : ByteArray) (hs : s.size ≤ 1000) (w : World) (hT : Tabs w) :
    Calls Tryd.prog 15 #[.string s] w fun e w' => ∃ v, e = .returned v ∧ OwnI w' w.heap.size v (runesOf s) ∧ Below w.heap.size w w' := by
  have HT := Lib.hid hT
  clear hT
  go_enter Tryd.func15, Tryd.ntmps15
  go_wp2_with fail
  refine (zz_points s hs _ HT.out).mono ?_
  rintro e w1 ⟨v, rfl, hown, hb⟩
  have HB := Lib.hid hb
  have HO := Lib.hid hown
  clear hb hown
  go_wp2_with fail
  refine (of_numbers (runesOf s) v w.heap.size _ (Nat.le_trans (runesOf_len s) hs) HO.out).mono ?_
  rintro e w2 ⟨v2, rfl, hown2, hb2⟩
  have HB2 := Lib.hid (HB.out.trans (hb2.mono HB.out.size))
  have HO2 := Lib.hid (own_base hown2 HB.out.size)
  clear hown2 hb2
  go_wp2
  go_ret
  exact ⟨_, rfl, HO2.out, HB2.out⟩
end Go.Proofs.YtkddmiamdpbgiaaDoor
