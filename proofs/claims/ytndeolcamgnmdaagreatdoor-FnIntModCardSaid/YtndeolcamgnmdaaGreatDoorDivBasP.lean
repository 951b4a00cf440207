/- The long division's round: plain part. -/
import Derived.Test.YtndeolcamgnmdaaGreatDoorDivBas
set_option linter.unusedVariables false
set_option linter.unusedSimpArgs false
set_option linter.unnecessarySimpa false
namespace Go.Proofs.YtndeolcamgnmdaaGreatDoor
open Go.RowKit
theorem db_round {gu gq gx o n m V i j Q ujn : Nat} {us lo mid lo' win mid' zs : List Nat} {W w6 : World} (hL : LR gu gq gx o (n + 1) W w6) (hq : ∃ qs : List Nat, qs.length = m ∧ (∀ x ∈ qs, x < W64) ∧ WA w6 gq 0 qs)
    (hll : lo'.length = j) (hjm : j < m) (hi : i = j + 1) (hzl : zs.length = m - i) (hlW : ∀ x ∈ lo', x < W64) (hzz : ∀ x ∈ zs, x = 0) (hV : 0 < V) (hml : mid'.length = n) (hmW : ∀ x ∈ mid', x < W64) (hmv : valW mid' = valW win % V) (hmt : mid'[n - 1]? = some ujn)
    (hlm : lo ++ mid = lo' ++ win) (hval : valW us = valW (lo ++ mid) + Q * V) (hwa : WA w6 gu 0 (lo' ++ mid' ++ (0 :: zs))) : DBInv gu gq gx o n m V us W j ujn w6 := by
  refine ⟨hL, hq, .inr ⟨by omega, lo', mid', 0 :: zs, Q + W64 ^ j * (valW win / V), hll, hml, by simp; omega, hlW, hmW, ?_, by rw [hmv]; exact Nat.mod_lt _ hV, hmt, ?_, hwa⟩⟩
  · intro x hx
    rcases List.mem_cons.1 hx with h | h
    · exact h
    · exact hzz x h
  · rw [hval, hlm, valW_append, valW_append, hll, hmv]
    have h1 := Nat.div_add_mod (valW win) V
    generalize valW win / V = q at *
    generalize valW win % V = r at *
    rw [← h1]
    generalize W64 ^ j = P at *
    grind
theorem val_top_split (rs : List Nat) (n : Nat) (h : rs.length = n + 1) : ∃ z, rs = rs.take n ++ [z] ∧ rs[n]? = some z ∧ valW rs = valW (rs.take n) + W64 ^ n * z := by
  have hz : rs[n]? = some (rs[n]'(by omega)) := List.getElem?_eq_getElem _
  have h1 : rs = rs.take n ++ [rs[n]'(by omega)] := by
    rw [← List.take_succ_eq_append_getElem (by omega), List.take_of_length_le (by omega)]
  refine ⟨rs[n]'(by omega), h1, hz, ?_⟩
  conv => lhs; rw [h1]
  rw [valW_append, List.length_take, Nat.min_eq_left (by omega)]
  simp [valW]
theorem WA.setAt {w : World} {g c i x : Nat} {ws : List Nat} (h : WA w g 0 ws) (hr : RowB w g c) (hc : i < c) : WA (w.setCell ⟨g, i, none⟩ (.int .u64 (x : Int))) g 0 (ws.set i x) := fun j hj => by
  obtain ⟨cur, hg, hs⟩ := hr
  have hj2 : j < ws.length := by simpa using hj
  have h1 := h j hj2
  rw [Nat.zero_add] at h1 ⊢
  rw [List.getElem_set]
  by_cases e : i = j
  · subst e
    simp [World.cell?, World.setCell, Array.getElem?_modify, hg, hs, hc]
  · unfold World.cell? at h1 ⊢
    rw [hg] at h1
    simp [World.setCell, Array.getElem?_modify, hg, Array.getElem?_setIfInBounds, e] at h1 ⊢
    exact h1
theorem db_putq {w : World} {gq cq m j x : Nat} {qs : List Nat} (hl : qs.length = m) (hW : ∀ y ∈ qs, y < W64) (h : WA w gq 0 qs) (hr : RowB w gq cq) (hm : m ≤ cq) (hj : j < m) (hx : x < W64) :
    ∃ qs2 : List Nat, qs2.length = m ∧ (∀ y ∈ qs2, y < W64) ∧ WA (w.setCell ⟨gq, j, none⟩ (.int .u64 (x : Int))) gq 0 qs2 :=
  ⟨qs.set j x, by simp [hl], fun y hy => by rcases List.mem_or_eq_of_mem_set hy with h | h; exact hW y h; rw [h]; exact hx, h.setAt hr (by omega)⟩
theorem add_back (R T A V P z c7 : Nat) (hK : T + P * z + V = R + P * W64) (hv : A + P * c7 = T + V) (hA : A < P) (hR : R < P) : c7 + z = W64 ∧ A = R := by
  have h1 : A + P * (c7 + z) = R + P * W64 := by rw [Nat.mul_add]; omega
  rcases Nat.lt_trichotomy (c7 + z) W64 with h | h | h
  · exfalso
    have h2 : P * (c7 + z + 1) ≤ P * W64 := Nat.mul_le_mul_left _ h
    rw [Nat.mul_add] at h2; omega
  · exact ⟨h, by rw [h] at h1; omega⟩
  · exfalso
    have h2 : P * (W64 + 1) ≤ P * (c7 + z) := Nat.mul_le_mul_left _ h
    rw [Nat.mul_add P W64] at h2; omega
theorem wa_top0 {w : World} {g c i z : Nat} {a b : List Nat} (h : WA w g 0 (a ++ (z :: b))) (hl : a.length = i) (hr : RowB w g c) (hc : i < c) : WA (w.setCell ⟨g, i, none⟩ (.int .u64 0)) g 0 (a ++ (0 :: b)) := by
  have h1 := h.setAt (i := i) (x := 0) hr hc
  rw [List.set_append_right _ _ (by omega), hl, Nat.sub_self, List.set_cons_zero, Int.natCast_zero] at h1
  exact h1
/-- Behind the add back: what the walk reads, and the round's end. -/
theorem db_add {gu cu gq cq gx o n m V i j jn ja mn Q gm z c7 : Nat} {us lo mid lo' win tk r7 zs qs : List Nat} {W w5 w5' w7 : World} (e5 : w5'.heap = w5.heap)
    (hru : RowB W gu cu) (hrq : RowB W gq cq) (hL5 : LR gu gq gx o (n + 1) W w5) (hL7 : LR gu gq gx o (n + 1) W w7) (hu5 : WA w5 gu 0 ((lo' ++ tk) ++ (z :: zs))) (hq5 : WA w5 gq 0 qs)
    (hwa7 : WA w7 gu j r7) (hwr7 : Wr gu j n w5' w7) (hll : lo'.length = j) (htl : tk.length = n) (hr7l : r7.length = n) (hr7W : ∀ x ∈ r7, x < W64) (hjn : jn = j + n) (hja : ja = j + n - 1) (hn : 2 ≤ n) (hqu : gq ≠ gu) (hjm : j < m) (hmq : m ≤ cq) (hmn : mn = m + n) (hmu : mn ≤ cu)
    (hql : qs.length = m) (hqW : ∀ x ∈ qs, x < W64) (hV : 0 < V) (hVn : V < W64 ^ n) (hK : valW tk + W64 ^ n * z + V = valW win % V + W64 ^ n * W64) (hv7 : valW r7 + W64 ^ n * c7 = valW tk + V)
    (hi : i = j + 1) (hzl : zs.length = m - i) (hlW : ∀ x ∈ lo', x < W64) (hzz : ∀ x ∈ zs, x = 0) (hlm : lo ++ mid = lo' ++ win) (hval : valW us = valW (lo ++ mid) + Q * V) (hgm : gm < W64) :
    c7 + z = W64 ∧ w7.cell? ⟨gu, jn, none⟩ = some (.int .u64 (z : Int)) ∧ w7.frozen? ⟨gu, jn, none⟩ = false ∧ w7.frozen? ⟨gq, j, none⟩ = false ∧ jn ≠ ja ∧ (jn : Int) < (mn : Int) ∧
    ∃ (t2 ux : Nat), w7.cell? ⟨gu, ja, none⟩ = some (.int .u64 (t2 : Int)) ∧ w7.cell? ⟨gq, j, none⟩ = some (.int .u64 (ux : Int)) ∧
      DBInv gu gq gx o n m V us W j t2 ((w7.setCell ⟨gu, jn, none⟩ (.int .u64 0)).setCell ⟨gq, j, none⟩ (.int .u64 (gm : Int))) := by
  have hr7n := valW_lt r7 hr7W
  rw [hr7l] at hr7n
  have hmod := Nat.mod_lt (valW win) hV
  have hzc : c7 + z = W64 ∧ valW r7 = valW win % V := add_back _ _ _ _ (W64 ^ n) z c7 hK hv7 hr7n (Nat.lt_trans hmod hVn)
  clear hr7n hmod hK hv7 hVn
  have hljn : (lo' ++ tk).length = jn := by rw [List.length_append, hll, htl, hjn]
  have hu7 : WA w7 gu 0 ((lo' ++ r7) ++ (z :: zs)) := by
    have h1 : WA w7 gu 0 lo' := (hu5.left.left.hp (w' := w5') e5).keep hwr7 (.inr (.inl (by omega)))
    have h2 : WA w7 gu (0 + (lo' ++ tk).length) (z :: zs) := (hu5.right.hp (w' := w5') e5).keep hwr7 (.inr (.inr (by rw [hljn]; omega)))
    refine (h1.app (by rw [Nat.zero_add, hll]; exact hwa7)).app ?_
    rw [show (lo' ++ r7).length = (lo' ++ tk).length by rw [List.length_append, List.length_append, hr7l, htl]]
    exact h2
  have hlj7 : (lo' ++ r7).length = jn := by rw [List.length_append, hll, hr7l, hjn]
  have cz := hu7.right.at (j := 0) rfl
  rw [Nat.zero_add, hlj7, Nat.add_zero] at cz
  have hru7 := hL7.row _ _ hru
  have hrq7 := hL7.row _ _ hrq
  have hq7 : WA w7 gq 0 qs := (hq5.hp (w' := w5') e5).keep hwr7 (.inl hqu)
  have hset7 : Wr gu jn 1 w7 (w7.setCell ⟨gu, jn, none⟩ (.int .u64 0)) := (Wr.refl gu jn 1 w7).set (Nat.le_refl _) (Nat.lt_succ_self _) _
  have hu8 : WA (w7.setCell ⟨gu, jn, none⟩ (.int .u64 0)) gu 0 (lo' ++ r7 ++ (0 :: zs)) := wa_top0 hu7 hlj7 hru7 (by omega)
  obtain ⟨t2, ht2⟩ : ∃ t2, r7[n - 1]? = some t2 := ⟨_, List.getElem?_eq_getElem (by omega)⟩
  have ca7 := hu7.left.right.at ht2
  rw [Nat.zero_add, hll, show j + (n - 1) = ja by omega] at ca7
  obtain ⟨ux, hux⟩ : ∃ ux, qs[j]? = some ux := ⟨_, List.getElem?_eq_getElem (by omega)⟩
  have cq7 := hq7.at hux
  rw [Nat.zero_add] at cq7
  have hq8 : WA (w7.setCell ⟨gu, jn, none⟩ (.int .u64 0)) gq 0 qs := hq7.keep hset7 (.inl hqu)
  have hL8 : LR gu gq gx o (n + 1) W (w7.setCell ⟨gu, jn, none⟩ (.int .u64 0)) := hL7.trans (LR.wrU hset7)
  have hrq8 := hL8.row _ _ hrq
  obtain ⟨w8, hw8⟩ : ∃ w8, w8 = w7.setCell ⟨gu, jn, none⟩ (.int .u64 0) := ⟨_, rfl⟩
  rw [← hw8] at hu8 hL8 hq8 hrq8 ⊢
  have hLs : LR gu gq gx o (n + 1) W (w8.setCell ⟨gq, j, none⟩ (.int .u64 (gm : Int))) := hL8.trans (LR.wrQ (((Wr.refl gq j 1 w8)).set (Nat.le_refl _) (Nat.lt_succ_self _) _))
  have hQs := db_putq hql hqW hq8 hrq8 hmq hjm hgm
  have hUs : WA (w8.setCell ⟨gq, j, none⟩ (.int .u64 (gm : Int))) gu 0 (lo' ++ r7 ++ (0 :: zs)) := hu8.keep ((Wr.refl gq j 1 w8).set (Nat.le_refl _) (Nat.lt_succ_self _) _) (.inl (Ne.symm hqu))
  have HF := db_round (lo := lo) (mid := mid) (win := win) hLs hQs hll hjm hi hzl hlW hzz hV hr7l hr7W hzc.2 ht2 hlm hval hUs
  exact ⟨hzc.1, cz, hru7.free jn, hrq7.free j, by omega, by omega, t2, ux, ca7, cq7, HF⟩
end Go.Proofs.YtndeolcamgnmdaaGreatDoor
