/- The walk of laws.FnSplitBoth: both ways of splitting at white space give the same parts. -/
import Derived.Test.YtkddmiamdpbgiaaDoorSplitB
namespace Go.Proofs.YtkddmiamdpbgiaaDoor
open Go.RowKit
def AsciiPost (s : ByteArray) (w : World) (e : Ending) (w' : World) : Prop := ∃ b : Bool, e = .returned (.bool b) ∧ w = w' ∧ (b = true → Low s ∧ s.size ≤ 400)
set_option maxRecDepth 20000 in
set_option maxHeartbeats 800000 in
theorem ascii_any (s : ByteArray) (hs : s.size ≤ 2147483647) (w : World) :
    Calls Tryd.prog 9 #[.string s] w (AsciiPost s w) := by
  go_enter Tryd.func9, Tryd.ntmps9
  go_wp2
  go_loop [3] (fun i => ∃ k : Nat, k ≤ s.size ∧ i = .int .i64 k ∧ Hid (∀ (j : Nat) (h : j < s.size), j < k → (s[j].toNat : Int) < 128)) (fun i => s.size - (intOf i).toNat)
  case atStart => exact ⟨0, Nat.zero_le _, rfl, fun j _ hj => absurd hj (by omega)⟩
  case round =>
    obtain ⟨k, hk, rfl, hl⟩ := hrel
    by_cases hlt : k < s.size
    · by_cases h1 : (127 : Int) ≤ s[k].toNat
      · go_wp2
        go_ret
        exact ⟨false, rfl, rfl, fun h => by cases h⟩
      · have hl' : Hid (∀ (j : Nat) (h : j < s.size), j < k + 1 → (s[j].toNat : Int) < 128) := fun j h hj => by
          rcases Nat.lt_succ_iff_lt_or_eq.1 hj with hj | rfl
          · exact hl.out j h hj
          · omega
        by_cases h2 : (s[k].toNat : Int) < 32
        · have h3 : ((s[k].toNat : Int) == 32) = false := by rw [beq_eq_false_iff_ne]; omega
          by_cases h4 : (s[k].toNat : Int) < 9
          · go_wp2
            go_ret
            exact ⟨false, rfl, rfl, fun h => by cases h⟩
          · by_cases h5 : (13 : Int) < s[k].toNat
            · go_wp2
              go_ret
              exact ⟨false, rfl, rfl, fun h => by cases h⟩
            · go_wp2
              go_round
              case rel => exact ⟨k + 1, by omega, by go_num, hl'⟩
              case measure => simp [intOf]; omega
        · go_wp2
          go_round
          case rel => exact ⟨k + 1, by omega, by go_num, hl'⟩
          case measure => simp [intOf]; omega
    · have HL : Hid (Low s) := fun j h => hl.out j h (by omega)
      clear hl
      go_wp2
      go_ret
      exact ⟨_, rfl, rfl, fun h => ⟨HL.out, by simp at h; omega⟩⟩
set_option maxHeartbeats 400000 in
theorem splitF (s : ByteArray) (hs : s.size ≤ 400) (hl : Low s) (w : World) :
    Calls Tryd.prog 10 #[.string s, .int .i64 400] w fun e w' => ∃ v, e = .returned v ∧ OwnS w' w.heap.size v (fields s.data.toList) ∧ Below w.heap.size w w' := by
  have HL := Lib.hid hl
  clear hl
  go_enter Tryd.func10, Tryd.ntmps10
  go_wp2_with (first | (go_at_call 19; go_in) | (go_at_call 29; refine (splitspace s hs HL.out _).mono ?_; rintro e w' ⟨v, rfl, hown, hb⟩))
  go_ret
  exact ⟨_, rfl, hown, hb⟩
set_option maxHeartbeats 400000 in
theorem splitB (s : ByteArray) (hs : s.size ≤ 400) (hl : Low s) (w : World) :
    Calls Tryd.prog 11 #[.string s, .int .i64 400] w fun e w' => ∃ v, e = .returned v ∧ OwnS w' w.heap.size v (fields s.data.toList) ∧ Below w.heap.size w w' := by
  have HL := Lib.hid hl
  clear hl
  go_enter Tryd.func11, Tryd.ntmps11
  go_wp2_with (first | (go_at_call 20; go_in) | (go_at_call 30; refine (rsplitspace s hs HL.out _).mono ?_; rintro e w' ⟨v, rfl, hown, hb⟩))
  go_ret
  exact ⟨_, rfl, hown, hb⟩
/-- The cells of a slice that owns texts. -/
theorem OwnS.at_ {w : World} {B : Nat} {v : Value} {fs : List (List UInt8)} (h : OwnS w B v fs) : ∃ A c, v = .slice A fs.length c ∧ ∀ k f, fs[k]? = some f → ∃ g, A = some ⟨g, 0, none⟩ ∧ w.cell? ⟨g, k, none⟩ = some (.string ⟨f.toArray⟩) := by
  rcases h.2 with ⟨rfl, h0⟩ | ⟨g, cap, cur, rfl, hrest⟩
  · refine ⟨none, 0, by rw [h0], fun k f hk => ?_⟩
    have := (List.getElem?_eq_some_iff.1 hk).1
    omega
  · refine ⟨_, _, rfl, fun k f hk => ⟨g, rfl, ?_⟩⟩
    have hl := (List.getElem?_eq_some_iff.1 hk).1
    rw [World.ownsRow.cellAt h k (by omega), texts, List.getElem?_map, hk]
    rfl
set_option maxRecDepth 20000 in
set_option maxHeartbeats 800000 in
theorem same_texts (fs : List (List UInt8)) (v1 v2 : Value) (B1 B2 : Nat) (w : World) (hl : fs.length ≤ 1000) (h1 : OwnS w B1 v1 fs) (h2 : OwnS w B2 v2 fs) :
    Calls Tryd.prog 12 #[v1, v2] w fun e w' => e = .returned (.bool true) ∧ w = w' := by
  obtain ⟨A1, c1, rfl, hc1⟩ := h1.at_
  obtain ⟨A2, c2, rfl, hc2⟩ := h2.at_
  have H1 := Lib.hid hc1
  have H2 := Lib.hid hc2
  clear h1 h2 hc1 hc2
  go_enter Tryd.func12, Tryd.ntmps12
  go_wp2
  go_loop [14] (fun i => ∃ k : Nat, k ≤ fs.length ∧ i = .int .i64 k) (fun i => fs.length - (intOf i).toNat)
  case atStart => exact ⟨0, Nat.zero_le _, rfl⟩
  case round =>
    obtain ⟨k, hk, rfl⟩ := hrel
    by_cases hlt : k < fs.length
    · obtain ⟨f, hf⟩ : ∃ f, fs[k]? = some f := ⟨_, List.getElem?_eq_getElem hlt⟩
      obtain ⟨g1, rfl, hg1⟩ := H1.out k f hf
      obtain ⟨g2, rfl, hg2⟩ := H2.out k f hf
      clear hf
      go_wp2
      go_round
      case rel => exact ⟨k + 1, by omega, by go_num⟩
      case measure => simp [intOf]; omega
    · go_wp2
      go_ret
      exact ⟨rfl, rfl⟩
theorem abc_fields : fields (ByteArray.mk #[97, 32, 98, 32, 99]).data.toList = [[97], [98], [99]] := by decide +kernel
theorem split_abc (w : World) :
    Calls Tryd.prog 10 #[.string ⟨#[97, 32, 98, 32, 99]⟩, .int .i64 400] w fun e w' => ∃ A c, e = .returned (.slice A 3 c) ∧ Below w.heap.size w w' := by
  have hlow : Low ⟨#[97, 32, 98, 32, 99]⟩ := by
    intro k h
    match k, h with
    | 0, _ => exact (by decide : ((97 : UInt8).toNat : Int) < 128)
    | 1, _ => exact (by decide : ((32 : UInt8).toNat : Int) < 128)
    | 2, _ => exact (by decide : ((98 : UInt8).toNat : Int) < 128)
    | 3, _ => exact (by decide : ((32 : UInt8).toNat : Int) < 128)
    | 4, _ => exact (by decide : ((99 : UInt8).toNat : Int) < 128)
    | (k + 5), h => exact absurd h (by simp [ByteArray.size])
  refine (splitF ⟨#[97, 32, 98, 32, 99]⟩ (by decide) hlow w).mono fun e w' ⟨v, he, hown, hb⟩ => ?_
  rw [abc_fields] at hown
  obtain ⟨A, c, rfl⟩ := hown.shape
  exact ⟨A, c, he, hb⟩
/-- What the law looks at in each part. -/
theorem part_good {l f : List UInt8} {k : Nat} (h : (fields l)[k]? = some f) : ∃ t : ByteArray, t = ⟨f.toArray⟩ ∧ 0 < t.size ∧ t.size = f.length ∧ ∀ (j : Nat) (hj : j < t.size), ((t[j].toNat : Int) == 32) = false ∧ (9 ≤ (t[j].toNat : Int) → ¬ (t[j].toNat : Int) ≤ 13) := by
  obtain ⟨h1, h2⟩ := fields_good l f (List.mem_of_getElem? h)
  refine ⟨_, rfl, ?_, rfl, fun j hj => ?_⟩
  · exact List.length_pos_iff.2 h1
  · have hc := h2 (f[j]'hj) (List.getElem_mem _)
    have e : (ByteArray.mk f.toArray)[j] = f[j]'hj := rfl
    rw [e]
    generalize f[j]'hj = c at hc
    simp [sp] at hc
    exact ⟨by rw [beq_eq_false_iff_ne]; omega, by omega⟩
theorem part_len {l f : List UInt8} {k : Nat} (h : (fields l)[k]? = some f) : f.length ≤ l.length := by
  have := fields_part_len l f (List.mem_of_getElem? h)
  exact this
set_option maxRecDepth 40000 in
set_option maxHeartbeats 3200000 in
theorem splitBoth_law (s : ByteArray) (w : World) (hs : s.size ≤ maxLen) :
    Calls Tryd.prog 4 #[.string s] w fun e w' => e = .returned (.bool true) ∧ Below w.heap.size w w' := by
  unfold maxLen at hs
  by_cases h : 2147483647 < s.size
  · go_enter Tryd.func4, Tryd.ntmps4
    go_wp2
    go_ret
    exact ⟨rfl, Below.refl _ _⟩
  · go_enter Tryd.func4, Tryd.ntmps4
    go_wp2_with fail
    refine (ascii_any s (by omega) _).mono ?_
    rintro e w' ⟨b, rfl, rfl, hgood⟩
    clear hs h
    cases b
    · clear hgood
      go_wp2
      go_ret
      exact ⟨rfl, Below.refl _ _⟩
    · obtain ⟨hlow, h400⟩ := hgood rfl
      have HL := Lib.hid hlow
      clear hgood hlow
      have hfl := fields_len s.data.toList
      have hfn : (fields s.data.toList).length ≤ 400 := by have : s.data.toList.length = s.size := by simp
                                                           omega
      have HP : Hid (∀ (k : Nat) (f : List UInt8), (fields s.data.toList)[k]? = some f → f.length ≤ 400) := fun k f h => by
        have h1 := part_len h
        have : s.data.toList.length = s.size := by simp
        omega
      clear hfl
      have HN := Lib.hid hfn
      clear hfn
      go_wp2_with fail
      refine (splitF s h400 HL.out _).mono ?_
      rintro e W1 ⟨v1, rfl, hown1, hb1⟩
      go_wp2_with fail
      refine (splitB s h400 HL.out _).mono ?_
      rintro e W2 ⟨v2, rfl, hown2, hb2⟩
      have hown1' : OwnS W2 w.heap.size v1 (fields s.data.toList) := own_below hown1 hb2
      have hb := hb1.trans (hb2.mono hb1.size)
      clear hown1 hb1 hb2
      obtain ⟨A1, c1, rfl, hc1⟩ := hown1'.at_
      have HC := Lib.hid hc1
      have HO1 := Lib.hid hown1'
      have HO2 := Lib.hid hown2
      have HPG : Hid (∀ (k : Nat) (f : List UInt8), (fields s.data.toList)[k]? = some f → ∃ t : ByteArray, t = ⟨f.toArray⟩ ∧ 0 < t.size ∧ t.size = f.length ∧ ∀ (j : Nat) (hj : j < t.size), ((t[j].toNat : Int) == 32) = false ∧ (9 ≤ (t[j].toNat : Int) → ¬ (t[j].toNat : Int) ≤ 13)) := fun k f h => part_good h
      clear hc1 hown1' hown2 h400
      generalize fields s.data.toList = fs at *
      have hfs := HN.out
      go_wp2
      go_loop [6, 7, 20] (fun _ _ i => ∃ k : Nat, k ≤ fs.length ∧ i = .int .i64 k) (fun _ _ i => fs.length - (intOf i).toNat)
      case atStart => exact ⟨0, Nat.zero_le _, rfl⟩
      case round =>
        obtain ⟨k, hk, rfl⟩ := hrel
        by_cases hlt : k < fs.length
        · obtain ⟨f, hf⟩ : ∃ f, fs[k]? = some f := ⟨_, List.getElem?_eq_getElem hlt⟩
          obtain ⟨g1, rfl, hg1⟩ := HC.out k f hf
          obtain ⟨t, ht, ht0, htl, htc⟩ := HPG.out k f hf
          have htm : t.size ≤ 400 := by have := HP.out k f hf; omega
          rw [← ht] at hg1
          have HT := Lib.hid htc
          have hte := emp_false ht0
          clear hf htl htc ht
          go_wp2
          go_loop [7] (fun j => ∃ m : Nat, m ≤ t.size ∧ j = .int .i64 m) (fun j => t.size - (intOf j).toNat)
          case atStart => exact ⟨0, Nat.zero_le _, rfl⟩
          case round =>
            obtain ⟨m, hm, rfl⟩ := hrel
            by_cases hml : m < t.size
            · obtain ⟨q1, q2⟩ := HT.out m hml
              by_cases h9 : 9 ≤ (t[m].toNat : Int)
              · have q3 := q2 h9
                clear q2
                go_wp2
                go_round
                case rel => exact ⟨m + 1, by omega, by go_num⟩
                case measure => simp [intOf]; omega
              · clear q2
                go_wp2
                go_round
                case rel => exact ⟨m + 1, by omega, by go_num⟩
                case measure => simp [intOf]; omega
            · go_wp2
              go_round
              case rel => exact ⟨k + 1, by omega, by go_num⟩
              case measure => simp [intOf]; omega
        · go_wp2_with fail
          refine (same_texts fs _ _ _ _ _ (by omega) HO1.out HO2.out).mono ?_
          rintro e w' ⟨rfl, rfl⟩
          go_wp2_with fail
          refine (split_abc _).mono ?_
          rintro e W3 ⟨A3, c3, rfl, hb3⟩
          have hbn := hb.trans (hb3.mono hb.size)
          clear hb hb3
          go_wp2
          go_ret
          exact ⟨rfl, hbn⟩
end Go.Proofs.YtkddmiamdpbgiaaDoor
