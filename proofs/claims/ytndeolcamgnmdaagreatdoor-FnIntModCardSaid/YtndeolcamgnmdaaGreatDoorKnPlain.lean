/- One digit of a long division: plain arithmetic on lists of words. -/
import Derived.Test.YtndeolcamgnmdaaGreatDoorDivNum
import Derived.Test.YtndeolcamgnmdaaGreatDoorModBaseC
set_option linter.unusedVariables false
set_option linter.unusedSimpArgs false
set_option linter.unnecessarySimpa false
namespace Go.Proofs.YtndeolcamgnmdaaGreatDoor
open Go.RowKit
theorem val_take_drop (l : List Nat) (k : Nat) (h : k ≤ l.length) : valW l = valW (l.take k) + W64 ^ k * valW (l.drop k) := by
  conv => lhs; rw [← List.take_append_drop k l]
  rw [valW_append, List.length_take, Nat.min_eq_left h]
theorem val_top2 (vs : List Nat) (k v1 v2 : Nat) (hl : vs.length = k + 2) (h1 : vs[k + 1]? = some v1) (h2 : vs[k]? = some v2) : valW vs = (v1 * W64 + v2) * W64 ^ k + valW (vs.take k) := by
  have e : vs.drop k = [v2, v1] := by
    have a := List.drop_eq_getElem_cons (show k < vs.length by omega)
    have b := List.drop_eq_getElem_cons (show k + 1 < vs.length by omega)
    rw [a, b, List.drop_of_length_le (by omega)]
    rw [List.getElem?_eq_getElem (by omega)] at h1 h2
    rw [Option.some.inj h1, Option.some.inj h2]
  rw [val_take_drop vs k (by omega), e]
  simp only [valW]
  grind
theorem val_top3 (us : List Nat) (k u1 u2 u3 : Nat) (hl : us.length = k + 3) (h1 : us[k + 2]? = some u1) (h2 : us[k + 1]? = some u2) (h3 : us[k]? = some u3) : valW us = ((u1 * W64 + u2) * W64 + u3) * W64 ^ k + valW (us.take k) := by
  have e : us.drop k = [u3, u2, u1] := by
    have a := List.drop_eq_getElem_cons (show k < us.length by omega)
    have b := List.drop_eq_getElem_cons (show k + 1 < us.length by omega)
    have c := List.drop_eq_getElem_cons (show k + 1 + 1 < us.length by omega)
    rw [a, b, c, List.drop_of_length_le (by omega)]
    rw [List.getElem?_eq_getElem (by omega)] at h1 h2 h3
    rw [Option.some.inj h1, Option.some.inj h2, Option.some.inj h3]
  rw [val_take_drop us k (by omega), e]
  simp only [valW]
  grind
theorem val_take_lt (l : List Nat) (k : Nat) (h : k ≤ l.length) (hw : ∀ x ∈ l, x < W64) : valW (l.take k) < W64 ^ k := by
  have h1 := valW_lt (l.take k) (fun x hx => hw x (List.mem_of_mem_take hx))
  rw [List.length_take, Nat.min_eq_left h] at h1
  exact h1
/-- The window's top words against the divisor's: the guess by three words by two. -/
theorem kn_guess (k v1 v2 u1 u2 u3 g : Nat) (vs us : List Nat) (hvl : vs.length = k + 2) (hul : us.length = k + 3) (hvw : ∀ x ∈ vs, x < W64) (huw : ∀ x ∈ us, x < W64)
    (hv1 : vs[k + 1]? = some v1) (hv2 : vs[k]? = some v2) (hu1 : us[k + 2]? = some u1) (hu2 : us[k + 1]? = some u2) (hu3 : us[k]? = some u3) (hn : 9223372036854775808 ≤ v1)
    (hlt : u1 < v1) (hg : g = ((u1 * W64 + u2) * W64 + u3) / (v1 * W64 + v2)) : valW us / valW vs ≤ g ∧ (g - 1) * valW vs ≤ valW us ∧ g < W64 := by
  have eV := val_top2 vs k v1 v2 hvl hv1 hv2
  have eU := val_top3 us k u1 u2 u3 hul hu1 hu2 hu3
  have hvr := val_take_lt vs k (by omega) hvw
  have hur := val_take_lt us k (by omega) huw
  have hW := W64_pos
  have hu2W : u2 < W64 := huw _ (List.mem_of_getElem? hu2)
  have hu3W : u3 < W64 := huw _ (List.mem_of_getElem? hu3)
  have hV2 : 0 < v1 * W64 + v2 := by
    have : 0 < v1 * W64 := Nat.mul_pos (by omega) hW
    omega
  have hP : 0 < W64 ^ k := Nat.pow_pos hW
  have hV : 0 < valW vs := by rw [eV]; have := Nat.mul_pos hV2 hP; omega
  have hgW : g < W64 := by
    rw [hg, Nat.div_lt_iff_lt_mul hV2]
    have h1 : (u1 * W64 + u2 + 1) * W64 ≤ v1 * W64 * W64 := Nat.mul_le_mul_right _ (by
      have : (u1 + 1) * W64 ≤ v1 * W64 := Nat.mul_le_mul_right _ hlt
      rw [Nat.add_mul] at this
      omega)
    rw [Nat.add_mul, Nat.one_mul] at h1
    have h2 : W64 * (v1 * W64 + v2) = v1 * W64 * W64 + W64 * v2 := by grind
    omega
  have hgm : g * (v1 * W64 + v2) ≤ (u1 * W64 + u2) * W64 + u3 := by rw [hg]; exact Nat.div_mul_le_self _ _
  refine ⟨?_, ?_, hgW⟩
  · rw [hg]
    exact kn_ge _ _ _ _ (W64 ^ k) (valW (vs.take k)) (valW (us.take k)) _ eV eU hur (Nat.div_mul_le_self _ _) hV2
  · refine kn_le _ _ _ _ (W64 ^ k) (valW (vs.take k)) (valW (us.take k)) g eV hvr eU hgm ?_
    have h3 : 1 * W64 ≤ v1 * W64 := Nat.mul_le_mul_right _ (by omega)
    omega
/-- The window's top word is the divisor's: the greatest word is the guess. -/
theorem kn_guess_top (k v1 u1 : Nat) (vs us : List Nat) (hvl : vs.length = k + 2) (hul : us.length = k + 3) (hvw : ∀ x ∈ vs, x < W64)
    (hv1 : vs[k + 1]? = some v1) (hu1 : us[k + 2]? = some u1) (hn : 9223372036854775808 ≤ v1) (hlt : u1 = v1) (hUV : valW us < W64 * valW vs) :
    valW us / valW vs ≤ 18446744073709551615 ∧ (18446744073709551615 - 1) * valW vs ≤ valW us := by
  have hW := W64_pos
  have hV : 0 < valW vs := by
    rcases Nat.eq_zero_or_pos (valW vs) with h | h
    · rw [h] at hUV; omega
    · exact h
  have h1 : valW us / valW vs < W64 := by rw [Nat.div_lt_iff_lt_mul hV]; exact hUV
  refine ⟨by unfold W64 at h1; omega, ?_⟩
  have eV := val_take_drop vs (k + 1) (by omega)
  have dV : vs.drop (k + 1) = [v1] := by
    rw [List.drop_eq_getElem_cons (show k + 1 < vs.length by omega), List.drop_of_length_le (by omega)]
    rw [List.getElem?_eq_getElem (by omega)] at hv1
    rw [Option.some.inj hv1]
  have eU := val_take_drop us (k + 2) (by omega)
  have dU : us.drop (k + 2) = [u1] := by
    rw [List.drop_eq_getElem_cons (show k + 2 < us.length by omega), List.drop_of_length_le (by omega)]
    rw [List.getElem?_eq_getElem (by omega)] at hu1
    rw [Option.some.inj hu1]
  rw [dV] at eV
  rw [dU] at eU
  simp only [valW, Nat.mul_zero, Nat.add_zero] at eV eU
  have hvr := val_take_lt vs (k + 1) (by omega) hvw
  have h2 := kn_top W64 (valW us) (valW vs) v1 (valW (vs.take (k + 1))) (W64 ^ k) (by rw [eV, Nat.pow_succ]; grind) (by rw [Nat.mul_comm, ← Nat.pow_succ]; exact hvr) (by
    rw [eU, hlt, Nat.pow_succ, Nat.pow_succ]
    have e : v1 * W64 * (W64 * W64 ^ k) = W64 ^ k * W64 * W64 * v1 := by grind
    omega) (by unfold W64; omega) (by unfold W64; omega)
  have e3 : W64 - 2 = 18446744073709551615 - 1 := by unfold W64; rfl
  rw [← e3]
  exact h2
/-- What the subtraction, and the addition behind a borrow, leave of the window. -/
theorem kn_sub (U V q g n rs c : Nat) (hV : 0 < V) (hVn : V < W64 ^ n) (hg1 : U / V ≤ g) (hg2 : (g - 1) * V ≤ U) (hc : c ≤ 1) (hrs : rs < W64 ^ (n + 1)) (h : rs + g * V = U + W64 ^ (n + 1) * c) (hU : U < W64 ^ (n + 1)) :
    (c = 0 → rs = U % V ∧ rs < W64 ^ n) ∧ (c = 1 → rs + V = U % V + W64 ^ (n + 1)) := by
  have hd := kn_digit U V _ g hV hg1 hg2 rfl
  have hdm := Nat.div_add_mod U V
  have hm := Nat.mod_lt U hV
  constructor
  · intro h0
    subst h0
    rcases hd with ⟨h1, h2⟩ | ⟨h1, h2⟩
    · rw [h2, Nat.mul_comm] at h
      constructor <;> omega
    · exfalso
      omega
  · intro h0
    subst h0
    rcases hd with ⟨h1, h2⟩ | ⟨h1, h2⟩
    · exfalso
      omega
    · rw [h2, Nat.add_mul, Nat.mul_comm] at h
      omega
end Go.Proofs.YtndeolcamgnmdaaGreatDoor
