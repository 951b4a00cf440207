/- The parts of a text between white space (of bytes below 128): no program in sight. -/
import Derived.Test.YtkddmiamdpbgiaaDoorStr
namespace Go.Proofs.YtkddmiamdpbgiaaDoor
open Go.RowKit
def sp (c : UInt8) : Bool := c.toNat == 32 || (decide (9 ≤ c.toNat) && decide (c.toNat ≤ 13))
/-- A text ends, or begins, where a part ends: it is empty or white space stands there. -/
def brk : Option UInt8 → Bool
  | none => true
  | some c => sp c
def fields : List UInt8 → List (List UInt8)
  | [] => []
  | c :: l => if sp c then fields l else if brk l.head? then [c] :: fields l else match fields l with
    | [] => [[c]]
    | f :: r => (c :: f) :: r
theorem fields_eq {c : UInt8} {l : List UInt8} (h : sp c = false) : fields (c :: l) = if brk l.head? then [c] :: fields l else match fields l with
    | [] => [[c]]
    | f :: r => (c :: f) :: r := by rw [fields]; exact if_neg (by simp [h])
theorem fields_ne {c : UInt8} {l : List UInt8} (h : sp c = false) : fields (c :: l) ≠ [] := by
  rw [fields_eq h]
  split
  · simp
  · split <;> simp
theorem fields_sp {c : UInt8} {l : List UInt8} (h : sp c = true) : fields (c :: l) = fields l := by rw [fields, if_pos h]
theorem fields_append : ∀ (a b : List UInt8), brk a.getLast? = true → fields (a ++ b) = fields a ++ fields b
  | [], b, _ => by simp [fields]
  | [c], b, h => by
    have hc : sp c = true := by simpa [brk] using h
    show fields (c :: b) = _
    rw [fields_sp hc, fields_sp hc]
    simp [fields]
  | c :: d :: a, b, h => by
    have h' : brk (d :: a).getLast? = true := by rw [List.getLast?_cons_cons] at h; exact h
    have ih := fields_append (d :: a) b h'
    cases hc : sp c with
    | true => rw [List.cons_append, fields_sp hc, fields_sp hc, ih]
    | false =>
      have e1 : (c :: d :: a) ++ b = c :: (d :: a ++ b) := rfl
      have e2 : (d :: a ++ b).head? = (d :: a).head? := rfl
      rw [e1, fields_eq hc, fields_eq hc, e2]
      cases hd : brk (d :: a).head? with
      | true => rw [if_pos rfl, if_pos rfl, ih]; rfl
      | false =>
        rw [if_neg (by simp), if_neg (by simp), ih]
        have hne : fields (d :: a) ≠ [] := fields_ne (by simpa [brk] using hd)
        cases hf : fields (d :: a) with
        | nil => exact absurd hf hne
        | cons f r => rfl
theorem fields_word : ∀ (w b : List UInt8), w ≠ [] → (∀ c ∈ w, sp c = false) → brk b.head? = true → fields (w ++ b) = w :: fields b
  | [], _, h, _, _ => absurd rfl h
  | [c], b, _, h, hb => by
    have hc := h c (by simp)
    show fields (c :: b) = _
    rw [fields_eq hc, if_pos hb]
  | c :: d :: w, b, _, h, hb => by
    have hc := h c (by simp)
    have hd := h d (by simp)
    have ih := fields_word (d :: w) b (by simp) (fun x hx => h x (by simp [hx])) hb
    have e1 : (c :: d :: w) ++ b = c :: (d :: w ++ b) := rfl
    have e2 : brk (d :: w ++ b).head? = false := by simp [brk, hd]
    rw [e1, fields_eq hc, e2, if_neg (by simp), ih]
theorem fields_good : ∀ (l : List UInt8), ∀ f ∈ fields l, f ≠ [] ∧ ∀ c ∈ f, sp c = false
  | [], f, hf => by simp [fields] at hf
  | c :: l, f, hf => by
    rw [fields] at hf
    split at hf
    · exact fields_good l f hf
    · rename_i hc
      have hc' : sp c = false := by simpa using hc
      split at hf
      · simp only [List.mem_cons] at hf
        rcases hf with rfl | hf
        · exact ⟨by simp, by simpa using hc'⟩
        · exact fields_good l f hf
      · split at hf
        · simp only [List.mem_singleton] at hf
          subst hf
          exact ⟨by simp, by simpa using hc'⟩
        · rename_i f0 r hr
          simp only [List.mem_cons] at hf
          rcases hf with rfl | hf
          · refine ⟨by simp, fun x hx => ?_⟩
            simp only [List.mem_cons] at hx
            rcases hx with rfl | hx
            · exact hc'
            · exact (fields_good l f0 (by rw [hr]; simp)).2 x hx
          · exact fields_good l f (by rw [hr]; simp [hf])
theorem fields_len : ∀ (l : List UInt8), (fields l).length ≤ l.length
  | [] => by simp [fields]
  | c :: l => by
    have ih := fields_len l
    rw [fields]
    split
    · simp; omega
    · split
      · simp; omega
      · split
        · simp
        · rename_i f r hr
          rw [hr] at ih
          simp at ih ⊢; omega
theorem fields_len_one (l : List UInt8) (c : UInt8) : (fields (l ++ [c])).length ≤ l.length + 1 := by
  have := fields_len (l ++ [c]); simpa using this
theorem fields_part_len : ∀ (l : List UInt8), ∀ f ∈ fields l, f.length ≤ l.length
  | [], f, hf => by simp [fields] at hf
  | c :: l, f, hf => by
    rw [fields] at hf
    split at hf
    · have := fields_part_len l f hf
      simp; omega
    · split at hf
      · simp only [List.mem_cons] at hf
        rcases hf with rfl | hf
        · simp
        · have := fields_part_len l f hf
          simp; omega
      · split at hf
        · simp only [List.mem_singleton] at hf
          subst hf
          simp
        · rename_i f0 r hr
          simp only [List.mem_cons] at hf
          rcases hf with rfl | hf
          · have := fields_part_len l f0 (by rw [hr]; simp)
            simp; omega
          · have := fields_part_len l f (by rw [hr]; simp [hf])
            simp; omega
/-- Where the pass from the beginning on stands: the parts that are whole, and where the one that is open began. -/
def Fwd (l : List UInt8) (pos : Nat) (st : Int) (fs : List (List UInt8)) : Prop :=
  (st = -1 ∧ brk (l.take pos).getLast? = true ∧ fs = fields (l.take pos)) ∨
  (∃ k : Nat, st = k ∧ k < pos ∧ brk (l.take k).getLast? = true ∧ (∀ c ∈ (l.take pos).drop k, sp c = false) ∧ fs = fields (l.take k))
theorem take_next {l : List UInt8} {pos : Nat} (h : pos < l.length) : l.take (pos + 1) = l.take pos ++ [l[pos]] := List.take_succ_eq_append_getElem h
theorem fwd_start (l : List UInt8) : Fwd l 0 (-1) [] := .inl ⟨rfl, by simp [brk], by simp [fields]⟩
theorem fwd_sp1 {l : List UInt8} {pos : Nat} {fs : List (List UInt8)} (h : pos < l.length) (hf : Fwd l pos (-1) fs) (hc : sp l[pos] = true) : Fwd l (pos + 1) (-1) fs := by
  rcases hf with ⟨_, hb, rfl⟩ | ⟨k, hk, _⟩
  · refine .inl ⟨rfl, ?_, ?_⟩
    · rw [take_next h, List.getLast?_concat]; exact hc
    · rw [take_next h, fields_append _ _ hb, fields_sp hc]; simp [fields]
  · omega
theorem drop_take_next {l : List UInt8} {k pos : Nat} (hk : k ≤ pos) (h : pos < l.length) : (l.take (pos + 1)).drop k = (l.take pos).drop k ++ [l[pos]] := by
  rw [take_next h, List.drop_append_of_le_length (by rw [List.length_take]; omega)]
theorem split_at {l : List UInt8} {k pos : Nat} (hk : k ≤ pos) : l.take pos = l.take k ++ (l.take pos).drop k := by
  have h := (List.take_append_drop k (l.take pos)).symm
  rw [List.take_take, Nat.min_eq_left hk] at h
  exact h
theorem fwd_sp2 {l : List UInt8} {pos k : Nat} {fs : List (List UInt8)} (h : pos < l.length) (hf : Fwd l pos k fs) (hc : sp l[pos] = true) :
    Fwd l (pos + 1) (-1) (fs ++ [(l.take pos).drop k]) := by
  rcases hf with ⟨h0, _⟩ | ⟨k', hk', hlt, hb, hw, rfl⟩
  · omega
  · obtain rfl : k = k' := by omega
    refine .inl ⟨rfl, ?_, ?_⟩
    · rw [take_next h, List.getLast?_concat]; exact hc
    · rw [take_next h, split_at (l := l) (Nat.le_of_lt hlt), List.append_assoc, fields_append _ _ hb, fields_word _ _ ?_ hw (by simpa [brk] using hc), fields_sp hc]
      · simp [fields, ← split_at (l := l) (Nat.le_of_lt hlt)]
      · intro e
        have := congrArg List.length e
        simp at this
        omega
theorem fwd_ns1 {l : List UInt8} {pos : Nat} {fs : List (List UInt8)} (h : pos < l.length) (hf : Fwd l pos (-1) fs) (hc : sp l[pos] = false) : Fwd l (pos + 1) pos fs := by
  rcases hf with ⟨_, hb, rfl⟩ | ⟨k, hk, _⟩
  · refine .inr ⟨pos, rfl, by omega, hb, ?_, rfl⟩
    rw [drop_take_next (Nat.le_refl _) h]
    simpa [List.drop_eq_nil_of_le (show (l.take pos).length ≤ pos by rw [List.length_take]; omega)] using hc
  · omega
theorem fwd_ns2 {l : List UInt8} {pos k : Nat} {fs : List (List UInt8)} (h : pos < l.length) (hf : Fwd l pos k fs) (hc : sp l[pos] = false) : Fwd l (pos + 1) k fs := by
  rcases hf with ⟨h0, _⟩ | ⟨k', hk', hlt, hb, hw, rfl⟩
  · omega
  · refine .inr ⟨k', hk', by omega, hb, ?_, rfl⟩
    rw [drop_take_next (Nat.le_of_lt hlt) h]
    intro c hcm
    simp only [List.mem_append, List.mem_singleton] at hcm
    rcases hcm with hcm | rfl
    · exact hw c hcm
    · exact hc
theorem fwd_end1 {l : List UInt8} {pos : Nat} {fs : List (List UInt8)} (h : l.length ≤ pos) (hf : Fwd l pos (-1) fs) : fs = fields l := by
  rcases hf with ⟨_, _, rfl⟩ | ⟨k, hk, _⟩
  · rw [List.take_of_length_le h]
  · omega
theorem fwd_end2 {l : List UInt8} {pos k : Nat} {fs : List (List UInt8)} (h : l.length ≤ pos) (hp : pos ≤ l.length) (hf : Fwd l pos k fs) : fs ++ [l.drop k] = fields l := by
  rcases hf with ⟨h0, _⟩ | ⟨k', hk', hlt, hb, hw, rfl⟩
  · omega
  · obtain rfl : k = k' := by omega
    rw [List.take_of_length_le h] at hw
    have e := List.take_append_drop k l
    have hne : l.drop k ≠ [] := by
      intro e
      have := congrArg List.length e
      simp at this
      omega
    have h1 := fields_word (l.drop k) [] hne hw (by simp [brk])
    rw [List.append_nil] at h1
    have h2 := fields_append (l.take k) (l.drop k) hb
    rw [e, h1] at h2
    rw [h2]
    simp [fields]
theorem fwd_len {l : List UInt8} {pos : Nat} {st : Int} {fs : List (List UInt8)} (hf : Fwd l pos st fs) : fs.length ≤ pos ∧ (0 ≤ st → fs.length < pos) ∧ st < pos ∧ -1 ≤ st := by
  rcases hf with ⟨h0, _, rfl⟩ | ⟨k', hk', hlt, hb, hw, rfl⟩
  · have := fields_len (l.take pos)
    rw [List.length_take] at this
    omega
  · have := fields_len (l.take k')
    rw [List.length_take] at this
    omega
theorem fwd_cases {l : List UInt8} {pos : Nat} {st : Int} {fs : List (List UInt8)} (hf : Fwd l pos st fs) : st = -1 ∨ ∃ k : Nat, st = k ∧ k < pos := by
  rcases hf with ⟨h0, _⟩ | ⟨k, hk, hlt, _⟩
  · exact .inl h0
  · exact .inr ⟨k, hk, hlt⟩
/-- Where the pass from the end on stands: the parts that are whole, the last one first, and where the one that is open ends. -/
def Bwd (l : List UInt8) (i : Nat) (en : Int) (fs : List (List UInt8)) : Prop :=
  (en = -1 ∧ brk (l.drop i).head? = true ∧ fs.reverse = fields (l.drop i)) ∨
  (∃ e : Nat, en = e ∧ i < e ∧ e ≤ l.length ∧ brk (l.drop e).head? = true ∧ (∀ c ∈ (l.take e).drop i, sp c = false) ∧ fs.reverse = fields (l.drop e))
theorem bwd_start (l : List UInt8) : Bwd l l.length (-1) [] := .inl ⟨rfl, by simp [brk], by simp [fields]⟩
theorem bwd_sp1 {l : List UInt8} {j : Nat} {fs : List (List UInt8)} (h : j < l.length) (hf : Bwd l (j + 1) (-1) fs) (hc : sp l[j] = true) : Bwd l j (-1) fs := by
  rcases hf with ⟨_, hb, hr⟩ | ⟨k, hk, _⟩
  · refine .inl ⟨rfl, ?_, ?_⟩
    · rw [List.drop_eq_getElem_cons h]; exact hc
    · rw [List.drop_eq_getElem_cons h, fields_sp hc]; exact hr
  · omega
theorem word_at {l : List UInt8} {i e : Nat} (h1 : i ≤ e) (h2 : e ≤ l.length) : l.drop i = (l.take e).drop i ++ l.drop e := by
  have h := congrArg (List.drop i) (List.take_append_drop e l).symm
  rw [h, List.drop_append_of_le_length (by rw [List.length_take]; omega)]
theorem word_ne {l : List UInt8} {i e : Nat} (h1 : i < e) (h2 : e ≤ l.length) : (l.take e).drop i ≠ [] := by
  intro e
  have := congrArg List.length e
  simp at this
  omega
theorem bwd_word {l : List UInt8} {i e : Nat} {fs : List (List UInt8)} (hf : Bwd l i e fs) : (fs ++ [(l.take e).drop i]).reverse = fields (l.drop i) := by
  rcases hf with ⟨h0, _⟩ | ⟨e', he', hlt, hle, hb, hw, hr⟩
  · omega
  · obtain rfl : e = e' := by omega
    rw [word_at (Nat.le_of_lt hlt) hle, fields_word _ _ (word_ne hlt hle) hw hb, List.reverse_append, hr]
    rfl
theorem bwd_sp2 {l : List UInt8} {j e : Nat} {fs : List (List UInt8)} (h : j < l.length) (hf : Bwd l (j + 1) e fs) (hc : sp l[j] = true) :
    Bwd l j (-1) (fs ++ [(l.take e).drop (j + 1)]) := by
  refine .inl ⟨rfl, ?_, ?_⟩
  · rw [List.drop_eq_getElem_cons h]; exact hc
  · rw [bwd_word hf, List.drop_eq_getElem_cons h, fields_sp hc]
theorem drop_take_prev {l : List UInt8} {j e : Nat} (hj : j < e) (he : e ≤ l.length) : (l.take e).drop j = (l[j]'(by omega)) :: (l.take e).drop (j + 1) := by
  rw [List.drop_eq_getElem_cons (by rw [List.length_take]; omega)]
  simp
theorem bwd_ns1 {l : List UInt8} {j : Nat} {fs : List (List UInt8)} (h : j < l.length) (hf : Bwd l (j + 1) (-1) fs) (hc : sp l[j] = false) : Bwd l j ((j + 1 : Nat) : Int) fs := by
  rcases hf with ⟨_, hb, hr⟩ | ⟨k, hk, _⟩
  · refine .inr ⟨j + 1, rfl, by omega, by omega, hb, ?_, hr⟩
    rw [drop_take_prev (Nat.lt_succ_self j) (by omega), List.drop_eq_nil_of_le (by rw [List.length_take]; omega)]
    simpa using hc
  · omega
theorem bwd_ns2 {l : List UInt8} {j e : Nat} {fs : List (List UInt8)} (h : j < l.length) (hf : Bwd l (j + 1) e fs) (hc : sp l[j] = false) : Bwd l j e fs := by
  rcases hf with ⟨h0, _⟩ | ⟨e', he', hlt, hle, hb, hw, hr⟩
  · omega
  · refine .inr ⟨e', he', by omega, hle, hb, ?_, hr⟩
    rw [drop_take_prev (by omega) hle]
    intro c hcm
    simp only [List.mem_cons] at hcm
    rcases hcm with rfl | hcm
    · exact hc
    · exact hw c hcm
theorem bwd_end1 {l : List UInt8} {fs : List (List UInt8)} (hf : Bwd l 0 (-1) fs) : fs.reverse = fields l := by
  rcases hf with ⟨_, _, hr⟩ | ⟨k, hk, _⟩
  · simpa using hr
  · omega
theorem bwd_end2 {l : List UInt8} {e : Nat} {fs : List (List UInt8)} (hf : Bwd l 0 e fs) : (fs ++ [l.take e]).reverse = fields l := by
  have := bwd_word hf
  simpa using this
theorem bwd_len {l : List UInt8} {i : Nat} {en : Int} {fs : List (List UInt8)} (hi : i ≤ l.length) (hf : Bwd l i en fs) : fs.length ≤ l.length - i ∧ (0 ≤ en → fs.length < l.length) := by
  rcases hf with ⟨h0, _, hr⟩ | ⟨e, hk', hlt, hle, hb, hw, hr⟩
  · have h1 := fields_len (l.drop i)
    have h2 := congrArg List.length hr
    rw [List.length_drop] at h1
    rw [List.length_reverse] at h2
    omega
  · have h1 := fields_len (l.drop e)
    have h2 := congrArg List.length hr
    rw [List.length_drop] at h1
    rw [List.length_reverse] at h2
    omega
theorem bwd_cases {l : List UInt8} {i : Nat} {en : Int} {fs : List (List UInt8)} (hf : Bwd l i en fs) : en = -1 ∨ ∃ k : Nat, en = k ∧ i < k ∧ k ≤ l.length := by
  rcases hf with ⟨h0, _⟩ | ⟨k, hk, hlt, hle, _⟩
  · exact .inl h0
  · exact .inr ⟨k, hk, hlt, hle⟩
/-- A list whose first and last k elements have changed places. -/
def revk {α : Type} (L : List α) (k : Nat) : List α := L.mapIdx fun j x => if j < k ∨ L.length - k ≤ j then (L[L.length - 1 - j]?).getD x else x
theorem revk_zero {α : Type} (L : List α) : revk L 0 = L := by
  apply List.ext_getElem
  · simp [revk]
  · intro i h1 h2
    simp only [revk, List.getElem_mapIdx]
    rw [if_neg (by omega)]
theorem revk_len {α : Type} (L : List α) (k : Nat) : (revk L k).length = L.length := by simp [revk]
theorem revk_mid {α : Type} {L : List α} {k j : Nat} (h : j < L.length) (h1 : k ≤ j) (h2 : j < L.length - k) : (revk L k)[j]? = L[j]? := by
  have hl : j < (revk L k).length := by rw [revk_len]; exact h
  rw [List.getElem?_eq_getElem hl, List.getElem?_eq_getElem h]
  simp only [revk, List.getElem_mapIdx]
  rw [if_neg (by omega)]
theorem revk_step {α : Type} {L : List α} {k : Nat} (h : 2 * k + 1 < L.length) {a b : α} (ha : L[k]? = some a) (hb : L[L.length - 1 - k]? = some b) :
    ((revk L k).set k b).set (L.length - 1 - k) a = revk L (k + 1) := by
  apply List.ext_getElem
  · simp [revk]
  · intro i h1 h2
    rw [revk_len] at h2
    simp only [List.getElem_set, revk, List.getElem_mapIdx]
    by_cases e1 : L.length - 1 - k = i
    · subst e1
      rw [if_pos rfl, if_pos (by omega), show L.length - 1 - (L.length - 1 - k) = k by omega, ha]
      rfl
    · rw [if_neg e1]
      by_cases e2 : k = i
      · subst e2
        rw [if_pos rfl, if_pos (by omega), hb]
        rfl
      · rw [if_neg e2]
        by_cases e3 : i < k ∨ L.length - k ≤ i
        · rw [if_pos e3, if_pos (by omega)]
        · rw [if_neg e3, if_neg (by omega)]
theorem revk_end {α : Type} {L : List α} {k : Nat} (h : L.length ≤ 2 * k + 1) : revk L k = L.reverse := by
  apply List.ext_getElem
  · simp [revk]
  · intro i h1 h2
    rw [revk_len] at h1
    simp only [revk, List.getElem_mapIdx, List.getElem_reverse]
    by_cases e : i < k ∨ L.length - k ≤ i
    · rw [if_pos e, List.getElem?_eq_getElem (by omega)]
      rfl
    · rw [if_neg e]
      congr 1
      omega
end Go.Proofs.YtkddmiamdpbgiaaDoor
