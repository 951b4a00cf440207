/- The place behind a text: plain facts on runes and line ends. No program in sight. -/
import Derived.Test.YtghendoiohfolaaGreatDoorStr
import Derived.Lib.TrimUEq
import Derived.Lib.SpaceUEq
import Derived.Lib.RuneCount
import Derived.Lib.LastIndexLaws
namespace Go.Proofs.YtghendoiohfolaaGreatDoor
set_option linter.unusedSimpArgs false
set_option linter.unusedVariables false
set_option linter.unnecessarySimpa false
open Go.RowKit
theorem fuel_enough (s : ByteArray) : ∀ f g pos, s.size - pos ≤ f → s.size - pos ≤ g → Lib.runeCountFrom s f pos = Lib.runeCountFrom s g pos
  | 0, g, pos, hf, _ => by rw [Lib.runeCountFrom_end s g pos (by omega)]; rfl
  | f + 1, 0, pos, _, hg => by rw [Lib.runeCountFrom_end s (f + 1) pos (by omega)]; rfl
  | f + 1, g + 1, pos, hf, hg => by
    unfold Lib.runeCountFrom
    by_cases h : pos < s.size
    · have hw := Lib.decode_width_pos s pos h
      rw [if_pos h, if_pos h, fuel_enough s f g _ (by omega) (by omega)]
    · rw [if_neg h, if_neg h]
/-- The runes from a place on, by the list of bytes. -/
def rc (l : List UInt8) : Nat := Lib.runeCountL l
theorem rc_shift (s : ByteArray) : ∀ (f n pos : Nat), Lib.runeCountFrom ⟨(s.data.toList.drop n).toArray⟩ f pos = Lib.runeCountFrom s f (n + pos)
  | 0, _, _ => rfl
  | f + 1, n, pos => by
    unfold Lib.runeCountFrom
    have hsz : (ByteArray.mk (s.data.toList.drop n).toArray).size = s.size - n := by
      show (s.data.toList.drop n).toArray.size = s.data.size - n
      rw [List.size_toArray, List.length_drop, Array.length_toList]
    have hd : Utf8.decode ⟨(s.data.toList.drop n).toArray⟩ pos = Utf8.decode s (n + pos) := by
      rw [← Lib.decodeL_drop, ← Lib.decodeL_drop]
      congr 1
      simp [List.drop_drop]
    rw [hsz, hd, rc_shift s f n, Nat.add_assoc]
    by_cases h : n + pos < s.size
    · rw [if_pos (by omega), if_pos h]
    · rw [if_neg (by omega), if_neg h]
theorem rc_nil : rc [] = 0 := by rfl
theorem rc_step {l : List UInt8} (h : l ≠ []) : rc l = 1 + rc (l.drop (Lib.decodeL l).2) := by
  have hl : 0 < l.length := List.length_pos_iff.2 h
  unfold rc Lib.runeCountL Lib.runeCount
  have hsz : (ByteArray.mk l.toArray).size = l.length := rfl
  have hsz2 : (ByteArray.mk (l.drop (Lib.decodeL l).2).toArray).size = l.length - (Lib.decodeL l).2 := by simp [ByteArray.size]
  rw [hsz, hsz2]
  have e0 : Lib.runeCountFrom ⟨l.toArray⟩ l.length 0 = Lib.runeCountFrom ⟨l.toArray⟩ ((l.length - 1) + 1) 0 := by congr 1; omega
  rw [e0]
  conv => lhs; unfold Lib.runeCountFrom
  rw [if_pos (by rw [hsz]; exact hl), Nat.zero_add]
  have hsh := rc_shift ⟨l.toArray⟩ (l.length - (Lib.decodeL l).2) (Lib.decodeL l).2 0
  have hw : 1 ≤ (Lib.decodeL l).2 := Lib.decode_width_pos ⟨l.toArray⟩ 0 (by rw [hsz]; exact hl)
  simp only [Nat.add_zero] at hsh
  rw [hsh]
  congr 1
  exact fuel_enough _ _ _ _ (by rw [hsz]; have hw2 : 1 ≤ (Utf8.decode ⟨l.toArray⟩ 0).2 := hw; omega) (by rw [hsz]; exact Nat.le_refl _)
/-- A piece that is one rune, whatever follows; a line end stands alone. -/
def Solid (c : List UInt8) : Prop := c ≠ [] ∧ (∀ rest, (Lib.decodeL (c ++ rest)).2 = c.length) ∧ (10 ∈ c → c = [10])
theorem rc_solid {c : List UInt8} (h : Solid c) (rest : List UInt8) : rc (c ++ rest) = 1 + rc rest := by
  rw [rc_step (by simp [h.1]), h.2.1 rest, List.drop_left]
/-- A text of such pieces. -/
def Good (x : List UInt8) : Prop := ∃ cs : List (List UInt8), x = cs.flatten ∧ ∀ c ∈ cs, Solid c
theorem rc_flat : ∀ (cs : List (List UInt8)) (t : List UInt8), (∀ c ∈ cs, Solid c) → rc (cs.flatten ++ t) = cs.length + rc t
  | [], t, _ => by simp
  | c :: cs, t, h => by
    rw [List.flatten_cons, List.append_assoc, rc_solid (h c (by simp)), rc_flat cs t (fun x hx => h x (by simp [hx]))]
    simp; omega
theorem rc_good {x : List UInt8} (h : Good x) (t : List UInt8) : rc (x ++ t) = rc x + rc t := by
  obtain ⟨cs, rfl, hc⟩ := h
  have h1 := rc_flat cs t hc
  have h2 := rc_flat cs [] hc
  rw [List.append_nil, rc_nil] at h2
  omega
theorem rc_le (l : List UInt8) : rc l ≤ l.length := Lib.runeCount_le ⟨l.toArray⟩
theorem good_nil : Good [] := ⟨[], rfl, by simp⟩
theorem good_snoc {x c : List UInt8} (h : Good x) (hc : Solid c) : Good (x ++ c) := by
  obtain ⟨cs, rfl, hcs⟩ := h
  refine ⟨cs ++ [c], by simp, fun y hy => ?_⟩
  simp only [List.mem_append, List.mem_singleton] at hy
  rcases hy with hy | rfl
  · exact hcs y hy
  · exact hc
/-- What stands behind the last line end. -/
def tailNl : List UInt8 → List UInt8
  | [] => []
  | c :: l => if 10 ∈ l then tailNl l else if c = 10 then l else c :: l
theorem tailNl_at : ∀ (a b : List UInt8), 10 ∉ b → tailNl (a ++ 10 :: b) = b
  | [], b, h => by simp [tailNl, h]
  | c :: a, b, h => by
    rw [List.cons_append, tailNl, if_pos (by simp), tailNl_at a b h]
theorem tailNl_none : ∀ (l : List UInt8), 10 ∉ l → tailNl l = l
  | [], _ => rfl
  | c :: l, h => by
    simp only [List.mem_cons, not_or] at h
    rw [tailNl, if_neg h.2, if_neg (fun e => h.1 e.symm)]
theorem split_last : ∀ (l : List UInt8), 10 ∈ l → ∃ a b, l = a ++ 10 :: b ∧ 10 ∉ b
  | [], h => by simp at h
  | c :: l, h => by
    by_cases hl : 10 ∈ l
    · obtain ⟨a, b, rfl, hb⟩ := split_last l hl
      exact ⟨c :: a, b, rfl, hb⟩
    · simp only [List.mem_cons] at h
      rcases h with rfl | h
      · exact ⟨[], l, rfl, hl⟩
      · exact absurd h hl
theorem tailNl_append {x t : List UInt8} (h : 10 ∈ t) : tailNl (x ++ t) = tailNl t := by
  obtain ⟨a, b, rfl, hb⟩ := split_last t h
  rw [← List.append_assoc, tailNl_at _ _ hb, tailNl_at _ _ hb]
theorem tailNl_append' {x t : List UInt8} (hx : 10 ∈ x) (h : 10 ∉ t) : tailNl (x ++ t) = tailNl x ++ t := by
  obtain ⟨a, b, rfl, hb⟩ := split_last x hx
  rw [tailNl_at _ _ hb, List.append_assoc, List.cons_append, tailNl_at _ _ (by simp [hb, h])]
theorem tailNl_len (l : List UInt8) : (tailNl l).length ≤ l.length := by
  by_cases h : 10 ∈ l
  · obtain ⟨a, b, rfl, hb⟩ := split_last l h
    rw [tailNl_at _ _ hb]; simp; omega
  · rw [tailNl_none l h]; exact Nat.le_refl _
theorem good_tail_flat : ∀ (cs : List (List UInt8)), (∀ c ∈ cs, Solid c) → Good (tailNl cs.flatten)
  | [], _ => good_nil
  | c :: cs, h => by
    rw [List.flatten_cons]
    have hs := h c (by simp)
    have hr : ∀ y ∈ cs, Solid y := fun y hy => h y (by simp [hy])
    by_cases h1 : 10 ∈ cs.flatten
    · rw [tailNl_append h1]; exact good_tail_flat cs hr
    · by_cases h2 : 10 ∈ c
      · rw [hs.2.2 h2]
        have := tailNl_at [] cs.flatten h1
        rw [List.nil_append] at this
        rw [List.singleton_append, this]
        exact ⟨cs, rfl, hr⟩
      · rw [tailNl_none _ (by simp only [List.mem_append, not_or]; exact ⟨h2, h1⟩)]
        exact ⟨c :: cs, by simp, h⟩
theorem good_tail {x : List UInt8} (h : Good x) : Good (tailNl x) := by
  obtain ⟨cs, rfl, hc⟩ := h
  exact good_tail_flat cs hc
def nls (l : List UInt8) : Nat := l.countP (· == 10)
theorem nls_pos {l : List UInt8} : 0 < nls l ↔ 10 ∈ l := by simp [nls, List.countP_pos_iff]
theorem nls_append (a b : List UInt8) : nls (a ++ b) = nls a + nls b := by simp [nls, List.countP_append]
theorem nls_le (l : List UInt8) : nls l ≤ l.length := List.countP_le_length
/-- The place behind a text. -/
def pbl (line : Int) (l : List UInt8) : Int := line + nls l
def pbc (col : Int) (l : List UInt8) : Int := if 0 < nls l then 1 + rc (tailNl l) else col + rc l
theorem pb_line (line : Int) (x t : List UInt8) : pbl line (x ++ t) = pbl (pbl line x) t := by unfold pbl; rw [nls_append]; omega
theorem pb_col (col : Int) {x : List UInt8} (t : List UInt8) (h : Good x) : pbc col (x ++ t) = pbc (pbc col x) t := by
  unfold pbc
  rw [nls_append]
  by_cases ht : 0 < nls t
  · rw [if_pos (by omega), if_pos ht, tailNl_append (nls_pos.1 ht)]
  · have ht' : 10 ∉ t := fun h => ht (nls_pos.2 h)
    by_cases hx : 0 < nls x
    · rw [if_pos (by omega), if_neg ht, if_pos hx, tailNl_append' (nls_pos.1 hx) ht', rc_good (good_tail h)]
      omega
    · rw [if_neg (by omega), if_neg ht, if_neg hx, rc_good h]
      omega
set_option maxRecDepth 100000 in
set_option maxHeartbeats 2000000 in
/-- A rune of two bytes or more reads the same whatever follows. -/
theorem decodeN_win (L L' b0 b1 b2 b3 c1 c2 c3 n : Nat) (hw : (Lib.decodeN L b0 b1 b2 b3).2 = n) (hn : 2 ≤ n) (hL : n ≤ L') (e1 : c1 = b1) (e2 : 2 < n → c2 = b2) (e3 : 3 < n → c3 = b3) :
    (Lib.decodeN L' b0 c1 c2 c3).2 = n := by
  subst e1
  unfold Lib.decodeN at hw ⊢
  repeat' split at hw
  all_goals simp only at hw
  all_goals first
    | (exfalso; omega)
    | (subst hw; (try (have E2 := e2 (by omega); subst E2)); (try (have E3 := e3 (by omega); subst E3)); repeat' split)
  all_goals first | rfl | (exfalso; omega)
theorem high_byte {b : UInt8} (h : b.toNat / 64 = 2) : b ≠ 10 := by
  rintro rfl
  revert h
  decide
/-- Where the decoder reads a rune that is no error, it reads the same whatever follows. -/
theorem solid_piece {l : List UInt8} (hl : l ≠ []) (hgood : ¬ ((Lib.decodeL l).1 = 65533 ∧ (Lib.decodeL l).2 < 2)) : Solid (l.take (Lib.decodeL l).2) ∧ (Lib.decodeL l).2 ≤ l.length ∧ 0 < (Lib.decodeL l).2 := by
  have hlen : 0 < l.length := List.length_pos_iff.2 hl
  obtain ⟨b, l', rfl⟩ := List.exists_cons_of_ne_nil hl
  by_cases h0 : b.toNat < 128
  · have hd : Lib.decodeL (b :: l') = (b.toNat, 1) := by
      rw [Lib.decodeL_N]; exact Lib.decodeN_ascii _ _ _ _ _ h0
    rw [hd]
    refine ⟨⟨by simp, fun rest => ?_, fun h => ?_⟩, by simp, Nat.one_pos⟩
    · show (Lib.decodeL (b :: rest)).2 = 1
      rw [Lib.decodeL_N]
      show (Lib.decodeN _ b.toNat _ _ _).2 = 1
      rw [Lib.decodeN_ascii _ _ _ _ _ h0]
    · simp at h ⊢; exact h.symm
  · have hN := Lib.decodeL_N (b :: l')
    have hg := Lib.decodeN_ge1 (b :: l').length b.toNat ((b :: l').getD 1 0).toNat ((b :: l').getD 2 0).toNat ((b :: l').getD 3 0).toNat
    have hc := Lib.decodeN_conts (b :: l').length b.toNat ((b :: l').getD 1 0).toNat ((b :: l').getD 2 0).toNat ((b :: l').getD 3 0).toNat
    have hone : (Lib.decodeN (b :: l').length b.toNat ((b :: l').getD 1 0).toNat ((b :: l').getD 2 0).toNat ((b :: l').getD 3 0).toNat).2 = 1 → (Lib.decodeN (b :: l').length b.toNat ((b :: l').getD 1 0).toNat ((b :: l').getD 2 0).toNat ((b :: l').getD 3 0).toNat).1 = 65533 := by
      intro h
      rcases Lib.decodeN_cases (b :: l').length b.toNat ((b :: l').getD 1 0).toNat ((b :: l').getD 2 0).toNat ((b :: l').getD 3 0).toNat with ⟨h1, _⟩ | ⟨_, _, _, _, h1⟩ | ⟨_, _, _, _, _, h1⟩ | ⟨_, h1⟩ | h1
      · omega
      · rw [h1] at h; simp at h
      · rw [h1] at h; simp at h
      · omega
      · rw [h1]
    have hN' : Lib.decodeL (b :: l') = Lib.decodeN (b :: l').length b.toNat ((b :: l').getD 1 0).toNat ((b :: l').getD 2 0).toNat ((b :: l').getD 3 0).toNat := hN
    rw [hN'] at hgood ⊢
    obtain ⟨c1, c2, c3, c4⟩ := hc
    generalize hn : (Lib.decodeN (b :: l').length b.toNat ((b :: l').getD 1 0).toNat ((b :: l').getD 2 0).toNat ((b :: l').getD 3 0).toNat).2 = n at *
    have hn2 : 2 ≤ n := by
      rcases Nat.lt_or_ge n 2 with h | h
      · exact absurd ⟨hone (by omega), h⟩ hgood
      · exact h
    have hnl : n ≤ (b :: l').length := by
      rcases (show n = 2 ∨ n = 3 ∨ n = 4 by omega) with rfl | rfl | rfl
      · have := (c1 (by omega)).2; omega
      · have := (c2 (by omega)).2; omega
      · have := (c3 (by omega)).2; omega
    have hk : ∀ (rest : List UInt8) (k : Nat), k < n → ((b :: l').take n ++ rest).getD k 0 = (b :: l').getD k 0 := by
      intro rest k hk
      simp only [List.getD]
      rw [List.getElem?_append_left (by rw [List.length_take]; omega), List.getElem?_take_of_lt hk]
    refine ⟨⟨?_, fun rest => ?_, fun h => ?_⟩, hnl, by omega⟩
    · intro e
      have := congrArg List.length e
      rw [List.length_take] at this
      simp at this
      omega
    · rw [List.length_take, Nat.min_eq_left hnl, Lib.decodeL_N, hk rest 0 (by omega), hk rest 1 (by omega)]
      refine decodeN_win _ _ _ _ _ _ _ _ _ n hn hn2 ?_ rfl (fun h2 => ?_) (fun h3 => ?_)
      · rw [List.length_append, List.length_take]; omega
      · rw [hk rest 2 h2]
      · rw [hk rest 3 h3]
    · exfalso
      obtain ⟨k, hkl, hke⟩ := List.getElem_of_mem h
      rw [List.length_take] at hkl
      have e1 : (b :: l').getD k 0 = 10 := by
        rw [List.getElem_take] at hke
        simp only [List.getD]
        rw [List.getElem?_eq_getElem (by omega), hke]
        rfl
      rcases (show k = 0 ∨ k = 1 ∨ k = 2 ∨ k = 3 by omega) with rfl | rfl | rfl | rfl
      · have e2 : b = 10 := e1
        subst e2
        exact h0 (by decide)
      · exact high_byte (c1 (by omega)).1 e1
      · exact high_byte (c2 (by omega)).1 e1
      · exact high_byte (c3 (by omega)).1 e1
theorem solid_mark : Solid [63] := by
  refine ⟨by simp, fun rest => ?_, by simp⟩
  rw [Lib.decodeL_N]
  show (Lib.decodeN _ (63 : UInt8).toNat _ _ _).2 = 1
  rw [Lib.decodeN_ascii _ _ _ _ _ (by decide)]
theorem occ_nl {l : List UInt8} {i : Nat} : Lib.occAt l [10] i = true ↔ l[i]? = some 10 := by
  constructor
  · intro h
    exact Lib.occAt_head rfl h
  · intro h
    have hi : i < l.length := (List.getElem?_eq_some_iff.1 h).1
    unfold Lib.occAt
    rw [List.drop_eq_getElem_cons hi]
    rw [List.getElem?_eq_getElem hi] at h
    injection h with h
    rw [h]
    simp
theorem last_nl {l : List UInt8} (h : 10 ∈ l) : ∃ k : Nat, Lib.lastIndex l [10] = k ∧ k < l.length ∧ l.drop (k + 1) = tailNl l := by
  obtain ⟨a, b, rfl, hb⟩ := split_last l h
  have hlen : 1 ≤ (a ++ 10 :: b).length := by simp; omega
  have e : Lib.lastIndex (a ++ 10 :: b) [10] = Lib.lastOcc (a ++ 10 :: b) [10] ((a ++ 10 :: b).length - 1 + 1) := by
    unfold Lib.lastIndex
    rw [if_pos (by simpa using hlen)]
    rfl
  have ha : (a ++ 10 :: b)[a.length]? = some 10 := by simp
  rcases Lib.lastOcc_spec (a ++ 10 :: b) [10] ((a ++ 10 :: b).length - 1 + 1) with ⟨_, hn⟩ | ⟨i, hi, he, ho, hn⟩
  · have := hn a.length (by simp; omega)
    rw [occ_nl.2 ha] at this
    cases this
  · rw [e, he]
    have hi' : (a ++ 10 :: b)[i]? = some 10 := occ_nl.1 ho
    have hia : i = a.length := by
      rcases Nat.lt_trichotomy i a.length with h1 | h1 | h1
      · have := hn a.length h1 (by simp; omega)
        rw [occ_nl.2 ha] at this
        cases this
      · exact h1
      · exfalso
        rw [List.getElem?_append_right (by omega)] at hi'
        obtain ⟨j, hj⟩ : ∃ j, i - a.length = j + 1 := ⟨i - a.length - 1, by omega⟩
        rw [hj, List.getElem?_cons_succ] at hi'
        exact hb (List.mem_of_getElem? hi')
    subst hia
    refine ⟨a.length, rfl, by simp, ?_⟩
    rw [tailNl_at _ _ hb]
    simp
end Go.Proofs.YtghendoiohfolaaGreatDoor
