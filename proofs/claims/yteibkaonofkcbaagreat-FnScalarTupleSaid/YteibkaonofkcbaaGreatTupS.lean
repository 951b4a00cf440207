/- A slice of a tuple. -/
import Derived.Test.YteibkaonofkcbaaGreatTupU
namespace Go.Proofs.YteibkaonofkcbaaGreat
open Go.RowKit
set_option linter.unusedSimpArgs false
set_option linter.unusedVariables false
attribute [local go_sem ↓] Go.wp_at_zero Go.wp_at_succ
theorem SegT.cut {w : World} {a : Option Addr} {n c : Nat} {ps : List (Value × Sx)} (h : SegT w a n c ps) (i j : Nat) (hij : i ≤ j) (hj : j ≤ n) :
    ∃ q d, SegT w q (j - i) d ((ps.drop i).take (j - i)) ∧ ∀ W : World, (Instr.slice 59 (.slice a n c) (some (.int .i64 (i : Int))) (some (.int .i64 (j : Int))) none).run Tryz.prog W = .ok (.slice q (j - i) d) W := by
  have hs : ∀ w, (sizeOf 87).run Tryz.prog w = .ok 1 w := fun w => by kernel_rfl
  obtain ⟨h1, h2, h3, h4, h5, h6⟩ := h
  have hlen : ((ps.drop i).take (j - i)).length = j - i := by rw [List.length_take, List.length_drop]; omega
  have hmem : ∀ p ∈ (ps.drop i).take (j - i), TVal w p.1 p.2 := fun p hp => h6 p (List.mem_of_mem_drop (List.mem_of_mem_take hp))
  have hget : ∀ k u, (((ps.drop i).take (j - i)).map (·.1))[k]? = some u → (ps.map (·.1))[i + k]? = some u := fun k u hk => by
    have hkl : k < j - i := by
      have := (List.getElem?_eq_some_iff.1 hk).1
      rw [List.length_map, hlen] at this
      exact this
    rw [List.getElem?_map, List.getElem?_take_of_lt hkl, List.getElem?_drop] at hk
    rw [List.getElem?_map]
    exact hk
  cases a with
  | none =>
    have hc := h4 rfl
    subst hc
    obtain rfl : j = 0 := by omega
    obtain rfl : i = 0 := by omega
    obtain rfl : n = 0 := by omega
    exact ⟨none, 0, ⟨by simp, Nat.le_refl _, Nat.zero_le _, fun _ => rfl, fun p hp => by simp at hp, hmem⟩, fun W => by simp [Instr.slice, run_underlying Tryz.underlying59, Instr.sliceBounds, Instr.sliceBound, asIntOf, hs]⟩
  | some x =>
    have e1 : (i : Int) ≤ (j : Int) := by omega
    have e2 : (j : Int) ≤ (c : Int) := by omega
    have e3 : j ≤ c := by omega
    have e4 : i ≤ c := by omega
    by_cases hci : c = i
    · subst hci
      obtain rfl : j = c := by omega
      refine ⟨some x, 0, ⟨by simp, by omega, Nat.zero_le _, fun h => rfl, fun p hp k u hk => ?_, hmem⟩, fun W => ?_⟩
      · have := (List.getElem?_eq_some_iff.1 hk).1
        rw [List.length_map, hlen] at this
        omega
      · simp [Instr.slice, run_underlying Tryz.underlying59, Instr.sliceBounds, Instr.sliceBound, asIntOf, hs]
    · refine ⟨some (x.add i), c - i, ⟨hlen, by omega, by omega, fun h => by simp at h, fun p hp k u hk => ?_, hmem⟩, fun W => ?_⟩
      · injection hp with hp
        subst hp
        rw [Addr.add_add]
        exact h5 x rfl (i + k) u (hget k u hk)
      · have hic : ¬ i = c := fun e => hci e.symm
        simp [Instr.slice, run_underlying Tryz.underlying59, Instr.sliceBounds, Instr.sliceBound, asIntOf, hs, hij, e3, e4, hci, hic]
set_option maxHeartbeats 1000000 in
theorem wpList_append_tt {ops : Array Oper} {rest : List Oper} {o : Oper} {a : Act} {Q : Exit → Act → World → Prop} {W : World} (hgd : o.guard = none) (s x : Operand)
    (ho : o.op = .call { callee := .builtin .append, args := #[s, x], argTypes := #[59, 59] })
    (w : World) (B : Nat) (v : Value) (ps : List (Value × Sx)) (hr : RowT w B v ps) (hs : a.eval s = v) (y : Value) (z : Sx) (hy : TVal w y z)
    (hx : a.eval x = .slice (some ⟨w.heap.size, 0, none⟩) 1 1) (hW : W = w.alloc (.cells #[y] 87)) (hlen : ps.length ≤ 1000) (hB : B ≤ w.heap.size)
    (h : ∀ v' w', RowT w' B v' (ps ++ [(y, z)]) → Below B w w' → wpList Tryz.prog ops Q rest (a.put o.dst v') w') : wpList Tryz.prog ops Q (o :: rest) a W := by
  subst hW
  obtain ⟨i0, hi0, hz0, hz1, hz2⟩ := info_parts Tryz.infoV
  have hba : Below w.heap.size w (w.alloc (.cells #[y] 87)) := (Below.refl w.heap.size w).alloc (Nat.le_refl _) _
  have hk : Blk (w.alloc (.cells #[y] 87)) w.heap.size 87 #[y] := Blk.new _ _ _
  obtain ⟨t, u, hyi⟩ := hy.iface
  refine wpList_append_own _ hgd s x _ ho B 87 i0 _ 1 16 Tryz.underlying59 hi0 hz0 hz1 hz2 rfl (by decide) _ ps.length _ hs (hr.1.alloc _) ⟨w.heap.size, 0, none⟩ 1 1 [y] hx rfl ?_ ?_ (by unfold maxLen; omega) (by omega) (by simp; omega) ?_
  · intro j q hj
    rw [Addr.add_lit, Nat.zero_add, hk.cell j]
    match j, hj with
    | 0, hj => exact hj
  · intro q hq; simp at hq; subst hq; subst hyi; rfl
  · intro v' w' hown' hg _
    have hrow0 := hr.1.alloc (.cells #[y] 87)
    refine h v' w' ⟨?_, fun q hq => ?_⟩ (((Below.refl B w).alloc hB _).grown hg (by simp; omega) fun k hk => (hrow0.lt k hk).1)
    · rw [List.length_append, List.map_append]
      simpa using hown'
    · have hq2 : TVal w q.1 q.2 := by
        rcases List.mem_append.1 hq with hq | hq
        · exact hr.2 q hq
        · simp at hq; subst hq; exact hy
      exact (hq2.below hba).grown hrow0 (by decide) (by decide) hg
theorem RowT.seg {w : World} {B : Nat} {v : Value} {ps : List (Value × Sx)} (h : RowT w B v ps) : ∃ q d, v = .slice q ps.length d ∧ SegT w q ps.length d ps := by
  rcases h.1.2 with ⟨rfl, h0⟩ | ⟨g, cap, cur, rfl, hb, hh, h1, h2, _⟩
  · have : ps = [] := List.eq_nil_of_length_eq_zero h0
    subst this
    exact ⟨none, 0, rfl, rfl, Nat.le_refl _, Nat.zero_le _, fun _ => rfl, fun p hp => by simp at hp, fun p hp => by simp at hp⟩
  · refine ⟨some ⟨g, 0, none⟩, cap, rfl, rfl, h1, h2, fun h => by simp at h, fun p hp j u hu => ?_, h.2⟩
    injection hp with hp
    subst hp
    exact h.1.cells (g := g) rfl j u hu
theorem sg_eq {n k : Nat} {i e s : Int} (h : CutIn n k i e s) (hc : (0 < s ∧ i < e) ∨ (s < 0 ∧ e < i)) : sg (e - i) = sg s := by
  unfold sg
  rcases hc with ⟨h1, h2⟩ | ⟨h1, h2⟩
  · rw [if_pos (by omega), if_pos h1]
  · rw [if_neg (by omega), if_pos (by omega), if_neg (by omega), if_pos h1]
theorem sg_ne {n k : Nat} {i e s : Int} (h : CutIn n k i e s) (hc : ¬ ((0 < s ∧ i < e) ∨ (s < 0 ∧ e < i))) : ¬ sg (e - i) = sg s := by
  have hs : 0 < s ∨ s < 0 := by rcases h with ⟨h1, _⟩ | ⟨h1, _⟩ <;> omega
  unfold sg
  rcases hs with h1 | h1
  · rw [if_neg (by omega), if_pos h1]
    split <;> omega
  · rw [if_neg (show ¬ 0 < s by omega), if_pos h1]
    split
    · omega
    · rw [if_neg (by omega)]; omega
def SlicePost (l : List Sx) (i j m : Int) (w : World) (e : Ending) (w' : World) : Prop := ∃ q k d qs, e = .returned (.iface 59 (.slice q k d)) ∧ SegT w' q k d qs ∧ qs.map (·.2) = cutX l 9 i j m ∧ Below w.heap.size w w'
set_option maxRecDepth 100000 in
set_option maxHeartbeats 4000000 in
theorem tup_slice (a : Option Addr) (n c : Nat) (ps : List (Value × Sx)) (i0 e s : Int) (w : World) (h : SegT w a n c ps) (h8 : n ≤ 8) (hb : Bnd n i0 e s) :
    Calls Tryz.prog 47 #[.slice a n c, .int .i64 i0, .int .i64 e, .int .i64 s] w (SlicePost (ps.map (·.2)) i0 e s w) := by
  by_cases hs1 : s = 1
  · subst hs1
    obtain ⟨i, hi⟩ : ∃ i : Nat, i0 = (i : Int) := ⟨i0.toNat, by rcases hb with ⟨h1, h2, h3, h4, h5⟩ | ⟨h1, _⟩ <;> omega⟩
    obtain ⟨j, hj⟩ : ∃ j : Nat, e = (j : Int) := ⟨e.toNat, by rcases hb with ⟨h1, h2, h3, h4, h5⟩ | ⟨h1, _⟩ <;> omega⟩
    subst hi hj
    have hij : i ≤ j := by rcases hb with ⟨h1, h2, h3, h4, h5⟩ | ⟨h1, _⟩ <;> omega
    have hjn : j ≤ n := by rcases hb with ⟨h1, h2, h3, h4, h5⟩ | ⟨h1, _⟩ <;> omega
    obtain ⟨q, d, hq, hrun⟩ := h.cut i j hij hjn
    have HQ := Lib.hid hq
    have HC : Hid (((ps.drop i).take (j - i)).map (·.2) = cutX (ps.map (·.2)) 9 (i : Int) (j : Int) 1) := by
      unfold Hid
      rw [cutX_one _ 9 i j hij (by rw [List.length_map, h.1]; exact hjn) (by omega), List.map_take, List.map_drop]
    obtain ⟨k, hk⟩ : ∃ k, k = j - i := ⟨_, rfl⟩
    rw [← hk] at hrun HQ HC
    clear h hb hq hk hij hjn
    go_enter Tryz.func47, Tryz.ntmps47
    go_wp2
    go_ret
    exact ⟨q, k, d, _, rfl, HQ.out, HC.out, Below.refl _ _⟩
  · have HS := Lib.hid h
    have HCI := Lib.hid (hb.cutIn h8)
    have hsb : -4 ≤ s ∧ s ≤ 5 := by rcases hb with ⟨h1, h2, _⟩ | ⟨h1, h2, _⟩ <;> omega
    have heb : -1 ≤ e ∧ e ≤ 8 := by rcases hb with ⟨h1, h2, h3, h4, h5⟩ | ⟨h1, h2, h3, h4, h5⟩ <;> omega
    obtain ⟨hs4, hs5⟩ := hsb
    obtain ⟨he1, he8⟩ := heb
    have HSG := Lib.hid (signum_small s w (by omega) (by omega))
    have hs2 : (s == 1) = false := by simp; exact hs1
    clear h hb
    go_enter Tryz.func47, Tryz.ntmps47
    go_wp2_with fail
    refine HSG.out.mono ?_
    rintro e1 w1 ⟨rfl, rfl⟩
    obtain ⟨σ, hσ⟩ : ∃ σ, σ = sg s := ⟨_, rfl⟩
    rw [← hσ]
    have HSI := Lib.hid hσ
    clear hσ hs2 hs1
    go_wp2_with fail
    go_loopg [10, 11] 9 (fun k ov iv wr => ∃ (i : Int) (qs : List (Value × Sx)), iv = .int .i64 i ∧ Hid (CutIn n k i e s) ∧ Hid (qs.map (·.2) ++ cutX (ps.map (·.2)) k i e s = cutX (ps.map (·.2)) 9 i0 e s ∧ RowT wr w.heap.size ov qs ∧ qs.length + k ≤ 9) ∧ Hid (Below w.heap.size w wr))
    case atStart => exact ⟨i0, [], rfl, HCI.out, ⟨rfl, RowT.nil (World.ownsRow_nil _ _ _ _), by simp⟩, Below.refl _ _⟩
    case round =>
      obtain ⟨i, qs, rfl, hci, hrow, hbw⟩ := hrel
      have hk9 : gk ≤ 9 := by have := hrow.out.2.2; omega
      have hi1 : -20 ≤ i := by rcases hci.out with ⟨h1, h2, h3, h4, h5, h6⟩ | ⟨h1, h2, h3, h4, h5, h6⟩ <;> omega
      have hi2 : i ≤ 20 := by rcases hci.out with ⟨h1, h2, h3, h4, h5, h6⟩ | ⟨h1, h2, h3, h4, h5, h6⟩ <;> omega
      have HSN := Lib.hid (signum_small (e - i) wr (by rcases hci.out with ⟨h1, h2, h3, h4, h5, h6⟩ | ⟨h1, h2, h3, h4, h5, h6⟩ <;> omega) (by rcases hci.out with ⟨h1, h2, h3, h4, h5, h6⟩ | ⟨h1, h2, h3, h4, h5, h6⟩ <;> omega))
      by_cases hc : (0 < s ∧ i < e) ∨ (s < 0 ∧ e < i)
      · have hsg := sg_eq hci.out hc
        rw [hsg, ← HSI.out] at HSN
        obtain ⟨j, q, rfl, hjn, hkq, hnext, hcut⟩ := hci.out.more hc
        have hjl : j < ps.length := by rw [HS.out.1]; exact hjn
        have hj0 : (0 : Int) ≤ (j : Int) := by omega
        have hj1 : (j : Int) < (n : Int) := by omega
        obtain ⟨p, t, x, rfl, he, hcell⟩ := (HS.out.below hbw.out).at j hjl
        have htv := (HS.out.below hbw.out).2.2.2.2.2 _ (List.getElem_mem hjl)
        obtain ⟨y, hy⟩ : ∃ y, y = (ps[j]'hjl).2 := ⟨_, rfl⟩
        rw [he, ← hy] at htv
        have hgd : (ps.map (·.2)).getD j .none = y := by rw [List.getD_eq_getElem?_getD, List.getElem?_map, List.getElem?_eq_getElem hjl, hy]; rfl
        have HTV := Lib.hid htv
        have HCUT := Lib.hid (hcut (ps.map (·.2)))
        rw [hgd] at HCUT
        have HROW := Lib.hid hrow.out
        have HNEXT := Lib.hid hnext
        have HBW := Lib.hid hbw.out
        have hq1000 : qs.length ≤ 1000 := by have := hrow.out.2.2; omega
        have HKQ := Lib.hid hkq
        clear htv hgd hcut hnext hrow hci hbw hkq hy he hsg hc
        go_wp2_with fail
        refine HSN.out.mono ?_
        rintro e1 w1 ⟨rfl, rfl⟩
        go_wp2_with (at_builtin; refine wpList_append_tt rfl (.tmp 31) (.tmp 36) rfl _ w.heap.size _ qs HROW.out.2.1 rfl (.iface t x) y HTV.out rfl rfl hq1000 HBW.out.size ?_; intro v6 w6 hr6 hb6; have HR6 := Lib.hid hr6; have HB6 := Lib.hid hb6; clear hr6 hb6)
        go_roundg q
        case measure => have := HKQ.out; omega
        case rel => exact ⟨(j : Int) + s, _, rfl, HNEXT.out, ⟨by have h := HROW.out.1; rw [HCUT.out] at h; rw [List.map_append, List.append_assoc]; exact h, HR6.out, by have h := HROW.out.2.2; have h2 := HKQ.out; rw [List.length_append]; simp; omega⟩, HBW.out.trans HB6.out⟩
      · have hsg := sg_ne hci.out hc
        rw [← HSI.out] at hsg
        obtain ⟨τ, hτ⟩ : ∃ τ, τ = sg (e - i) := ⟨_, rfl⟩
        rw [← hτ] at HSN hsg
        have hsg2 : (τ == σ) = false := by simp; exact hsg
        have HR9 := Lib.hid hrow.out
        have HBW9 := Lib.hid hbw.out
        have HE := Lib.hid (cutX_end (l := ps.map (·.2)) (k := gk) hc)
        obtain ⟨qa, qd, hqv, hseg⟩ := hrow.out.2.1.seg
        obtain ⟨qn, hqn⟩ : ∃ qn, qn = qs.length := ⟨_, rfl⟩
        rw [← hqn] at hqv hseg
        subst hqv
        have HSE := Lib.hid hseg
        clear hci hrow hbw hc hτ hseg hqn
        go_wp2_with fail
        refine HSN.out.mono ?_
        rintro e1 w1 ⟨rfl, rfl⟩
        go_wp2
        go_ret
        exact ⟨qa, qn, qd, qs, rfl, HSE.out, by have h := HR9.out.1; rw [HE.out, List.append_nil] at h; exact h, HBW9.out⟩
end Go.Proofs.YteibkaonofkcbaaGreat
