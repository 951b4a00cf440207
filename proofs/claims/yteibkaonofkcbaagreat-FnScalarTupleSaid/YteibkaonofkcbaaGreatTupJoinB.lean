/- Joined texts: Bytes, Cut. -/
import Derived.Test.YteibkaonofkcbaaGreatTupJoinA
import Derived.Test.YteibkaonofkcbaaGreatBigPlain
import Derived.Test.YteibkaonofkcbaaGreatRows
import Derived.Test.YteibkaonofkcbaaGreatChecked
import Derived.Laws.OwnMore
import Derived.Laws.AppendOwnNone
import Derived.Deep.QuietTactic
import Derived.BigQuiet
import Derived.RegionTactic
import Derived.ChangeAlike
import Derived.IntWalk
import Derived.Deep.RegionLaw
set_option linter.unusedSimpArgs false
set_option linter.unusedVariables false
namespace Go.Proofs.YteibkaonofkcbaaGreat
open Go.RowKit
def IsRow (k : IntKind) (W : World) (a : Option Addr) (len cap : Nat) (zs : List Int) : Prop :=
  (a = none ∧ len = 0 ∧ cap = 0 ∧ zs = []) ∨
  ∃ x, a = some x ∧ len ≤ cap ∧ cap ≤ maxLen ∧ zs.length = cap ∧ (∀ i, i < zs.length → W.cell? (x.add i) = some (.int k (zs.getD i 0))) ∧ ∀ n ∈ zs, (Lit.int k n).wf = true
def bcells (l : List Nat) : List Value := l.map fun (x : Nat) => Value.int .u8 (x : Int)
@[simp] theorem bcells_len (l : List Nat) : (bcells l).length = l.length := by simp [bcells]
theorem bcells_one (l : List Nat) : ∀ u ∈ bcells l, u.oneCell' = true := by
  intro u hu
  simp only [bcells, List.mem_map] at hu
  obtain ⟨x, _, rfl⟩ := hu
  rfl
theorem bcells_at {l : List Nat} {j : Nat} {u : Value} (h : (bcells l)[j]? = some u) : ∃ hj : j < l.length, u = .int .u8 (l[j] : Int) := by
  unfold bcells at h
  rw [List.getElem?_map] at h
  obtain ⟨x, hx, rfl⟩ := Option.map_eq_some_iff.1 h
  obtain ⟨hj, rfl⟩ := List.getElem?_eq_some_iff.1 hx
  exact ⟨hj, rfl⟩
/-- v is a slice that reads as the bytes l. -/
def BSl (w : World) (v : Value) (l : List Nat) : Prop :=
  ∃ (a : Option Addr) (cap : Nat), v = .slice a l.length cap ∧ l.length ≤ cap ∧ cap ≤ maxLen ∧ (∀ x ∈ l, x < 256) ∧ (a = none → l = [] ∧ cap = 0) ∧
    (∀ p, a = some p → ∀ j (h : j < l.length), w.cell? (p.add j) = some (.int .u8 ((l[j]'h : Nat) : Int)))
theorem bsl_of_row {W : World} {a : Option Addr} {len cap : Nat} {zs : List Int} (h : IsRow .u8 W a len cap zs) : BSl W (.slice a len cap) ((zs.take len).map Int.toNat) ∧ ((zs.take len).map Int.toNat).length = len := by
  rcases h with ⟨rfl, rfl, rfl, rfl⟩ | ⟨x, rfl, h1, h2, h3, h4, h5⟩
  · exact ⟨⟨none, 0, rfl, by simp, by simp, by simp, fun _ => ⟨rfl, rfl⟩, by simp⟩, rfl⟩
  · have hb : ∀ n ∈ zs, 0 ≤ n ∧ n < 256 := fun n hn => by
      have := h5 n hn
      simp [Lit.wf, IntKind.min, IntKind.max, IntKind.bits, IntKind.signed] at this
      omega
    have hl : ((zs.take len).map Int.toNat).length = len := by simp; omega
    refine ⟨⟨some x, cap, by rw [hl], by rw [hl]; exact h1, h2, ?_, by simp, ?_⟩, hl⟩
    · intro y hy
      simp only [List.mem_map] at hy
      obtain ⟨n, hn, rfl⟩ := hy
      have := hb n (List.mem_of_mem_take hn)
      omega
    · intro p hp j hj
      obtain rfl : x = p := Option.some.inj hp
      rw [hl] at hj
      have hjz : j < zs.length := by omega
      rw [h4 j hjz]
      have hz := hb zs[j] (List.getElem_mem hjz)
      simp [List.getD, List.getElem?_eq_getElem hjz]
      omega
theorem BSl.below {w w' : World} {v : Value} {l : List Nat} (h : BSl w v l) {B : Nat} (hb : Below B w w') (hB : ∀ p n c, v = .slice (some p) n c → p.block < B) : BSl w' v l := by
  obtain ⟨a, cap, hv, h1, h2, h3, h4, h5⟩ := h
  refine ⟨a, cap, hv, h1, h2, h3, h4, fun p hp j hj => ?_⟩
  subst hp
  have hlt := hB p _ _ hv
  rw [hb.cell (p := p.add j) (by unfold Addr.add; split <;> exact hlt)]
  exact h5 p rfl j hj
theorem BSl.old {w w' : World} {v : Value} {l : List Nat} (h : BSl w v l) (hb : Below w.heap.size w w') : BSl w' v l := by
  obtain ⟨a, cap, hv, h1, h2, h3, h4, h5⟩ := h
  refine ⟨a, cap, hv, h1, h2, h3, h4, fun p hp j hj => ?_⟩
  have hc := h5 p hp j hj
  rw [hb.cell (p := p.add j) (World.block_lt_of_cell? w _ hc)]
  exact hc
/-- v is a slice of bytes of its own, above B. -/
def OB (w : World) (B : Nat) (v : Value) (l : List Nat) : Prop := w.ownsRow B 5 1 v l.length (bcells l) ∧ v ≠ .slice none 0 0 ∧ ∀ x ∈ l, x < 256
theorem OB.form {w : World} {B : Nat} {v : Value} {l : List Nat} (h : OB w B v l) : ∃ g cap, v = .slice (some ⟨g, 0, none⟩) l.length cap ∧ B ≤ g ∧ g < w.heap.size ∧ l.length ≤ cap ∧ cap ≤ maxLen := by
  rcases h.1.2 with ⟨hv, _⟩ | ⟨g, cap, cur, hv, hb, hh, h1, h2, _⟩
  · exact absurd hv h.2.1
  · exact ⟨g, cap, hv, hb, (Array.getElem?_eq_some_iff.1 hh).1, h1, h2⟩
theorem OB.bsl {w : World} {B : Nat} {v : Value} {l : List Nat} (h : OB w B v l) : BSl w v l := by
  obtain ⟨g, cap, rfl, hb, hg, h1, h2⟩ := h.form
  refine ⟨_, cap, rfl, h1, h2, h.2.2, by simp, fun p hp j hj => ?_⟩
  obtain rfl := Option.some.inj hp
  exact h.1.cells (g := g) rfl j _ (by simp [bcells, hj])
theorem OB.below {w w' : World} {B : Nat} {v : Value} {l : List Nat} (h : OB w B v l) (hb : Below w.heap.size w w') : OB w' B v l := ⟨own_below h.1 hb, h.2⟩
theorem OB.base {w : World} {B C : Nat} {v : Value} {l : List Nat} (h : OB w B v l) (hC : C ≤ B) : OB w C v l := by
  refine ⟨⟨h.1.1, ?_⟩, h.2⟩
  rcases h.1.2 with h0 | ⟨g, cap, cur, hv, hb, hrest⟩
  · exact .inl h0
  · exact .inr ⟨g, cap, cur, hv, Nat.le_trans hC hb, hrest⟩
theorem ob_new (w : World) (B : Nat) (hB : B ≤ w.heap.size) : OB (w.alloc (.cells #[] 5)) B (.slice (some ⟨w.heap.size, 0, none⟩) 0 0) [] :=
  ⟨⟨rfl, .inr ⟨w.heap.size, 0, #[], rfl, hB, heap_alloc_new w _, Nat.le_refl _, by unfold maxLen; omega, rfl, rfl⟩⟩, by simp, by simp⟩
theorem Tryz.infoByte : (Tryz.prog.info? 5).map (fun i => (i.zero, i.size, i.bytes)) = some (some (.int .u8 0), 1, 1) := by kernel_rfl
section
variable {w : World} {v sv : Value} {xs l : List Nat}
theorem app_bsl {o : Oper} {a : Act} {K : Act → World → Prop} {Q : Exit → Act → World → Prop} (hgd : o.guard = none) (s x : Operand)
    (ho : o.op = .call { callee := .builtin .append, args := #[s, x], argTypes := #[30, 30] })
    (B : Nat) (hs : a.eval s = v) (hx : a.eval x = sv) (hown : OB w B v xs) (hsrc : BSl w sv l) (hlen : xs.length + l.length ≤ 140737488355328) (hB : B ≤ w.heap.size)
    (h : ∀ v' w', OB w' B v' (xs ++ l) → Below B w w' → w.grownBy w' v.ownBlock → K (a.put o.dst v') w') : o.wp Tryz.prog a w K Q := by
  obtain ⟨i0, hi, hz0, hz1, hz2⟩ := info_parts Tryz.infoByte
  obtain ⟨ad, cap, rfl, h1, h2, h3, h4, h5⟩ := hsrc
  cases ad with
  | none =>
    obtain ⟨rfl, rfl⟩ := h4 rfl
    have hrun := run_append_owned_none (P := Tryz.prog) (w := w) B 30 o.type 5 i0 1 Tryz.underlying30 hi v _ _ hown.1
    unfold Oper.wp
    simp [execOp, ho, resolve, invoke, builtin, hs, hx, hrun, Result.andThen]
    exact h _ _ (by simpa using hown) (Below.refl _ _) ⟨rfl, rfl, rfl, Nat.le_refl _, fun _ _ _ => rfl⟩
  | some p =>
    refine wp_append_own _ s x 30 ho B 5 i0 _ 1 1 Tryz.underlying30 hi hz0 hz1 hz2 rfl (by decide) v _ _ hs hown.1 p l.length cap (bcells l) hx (by simp) ?_ (bcells_one l) (by unfold maxLen; omega) (by omega) hB ?_
    · intro j u hj
      obtain ⟨hj', rfl⟩ := bcells_at hj
      exact h5 p rfl j hj'
    · intro v' w' hown' hg hnil
      refine h v' w' ⟨by simpa [bcells] using hown', fun e => hown.2.1 (hnil.1 e).1, ?_⟩ ((Below.refl B w).grown hg hB fun k hk => (hown.1.lt k hk).1) hg
      intro y hy
      rcases List.mem_append.1 hy with hy | hy
      · exact hown.2.2 y hy
      · exact h3 y hy
theorem wpList_app_bsl {ops : Array Oper} {rest : List Oper} {o : Oper} {a : Act} {Q : Exit → Act → World → Prop} (hgd : o.guard = none) (s x : Operand)
    (ho : o.op = .call { callee := .builtin .append, args := #[s, x], argTypes := #[30, 30] })
    (B : Nat) (hs : a.eval s = v) (hx : a.eval x = sv) (hown : OB w B v xs) (hsrc : BSl w sv l) (hlen : xs.length + l.length ≤ 140737488355328) (hB : B ≤ w.heap.size)
    (h : ∀ v' w', OB w' B v' (xs ++ l) → Below B w w' → w.grownBy w' v.ownBlock → wpList Tryz.prog ops Q rest (a.put o.dst v') w') : wpList Tryz.prog ops Q (o :: rest) a w :=
  wpList_plain hgd fun _ hK => app_bsl hgd s x ho B hs hx hown hsrc hlen hB fun v' w' h1 h2 h3 => hK _ _ (h v' w' h1 h2 h3)
theorem step_app_bsl {ops : Array Oper} {o : Oper} {a : Act} {K : Act → World → Prop} {Q : Exit → Act → World → Prop} {E : Prop} (hgd : o.guard = none) (s x : Operand)
    (ho : o.op = .call { callee := .builtin .append, args := #[s, x], argTypes := #[30, 30] })
    (B : Nat) (hs : a.eval s = v) (hx : a.eval x = sv) (hown : OB w B v xs) (hsrc : BSl w sv l) (hlen : xs.length + l.length ≤ 140737488355328) (hB : B ≤ w.heap.size)
    (h : ∀ v' w', OB w' B v' (xs ++ l) → Below B w w' → w.grownBy w' v.ownBlock → K (a.put o.dst v') w') :
    if Region.wanted o (yielded ops a.tmps) = true then Oper.wp Tryz.prog o a w K Q else E := by
  have hw : Region.wanted o (yielded ops a.tmps) = true := by simp [Region.wanted, hgd]
  rw [if_pos hw]
  exact app_bsl hgd s x ho B hs hx hown hsrc hlen hB h
end
/-- v[k:] -/
theorem slice_from (w : World) (a : Option Addr) (n cap k : Nat) (hk : k ≤ n) :
    (Instr.slice 30 (.slice a n cap) (some (.int .i64 (k : Int))) none none).run Tryz.prog w = .ok (.slice (if cap = k then a else a.map (·.add (k * 1))) (n - k) (cap - k)) w := by
  simp [Instr.slice, run_underlying Tryz.underlying30, Instr.sliceBounds, Instr.sliceBound, asIntOf, hk, Tryz.sizeOf5]
theorem BSl.from {w : World} {a : Option Addr} {n cap : Nat} {l : List Nat} (h : BSl w (.slice a n cap) l) (k : Nat) (hk : k ≤ n) : BSl w (.slice (if cap = k then a else a.map (·.add (k * 1))) (n - k) (cap - k)) (l.drop k) := by
  obtain ⟨a', cap', hv, h1, h2, h3, h4, h5⟩ := h
  injection hv with e1 e2 e3
  subst e1 e2 e3
  refine ⟨if cap = k then a else a.map (·.add (k * 1)), cap - k, by rw [List.length_drop], by rw [List.length_drop]; omega, by omega, fun x hx => h3 x (List.mem_of_mem_drop hx), fun hn => ?_, fun p hp j hj => ?_⟩
  · split at hn
    · obtain ⟨e, e2⟩ := h4 hn
      exact ⟨by simp [e], by omega⟩
    · rw [Option.map_eq_none_iff] at hn
      obtain ⟨e, e2⟩ := h4 hn
      exact ⟨by simp [e], by omega⟩
  · have hj' : j < l.length - k := by simpa using hj
    split at hp
    · omega
    · obtain ⟨q, rfl, rfl⟩ := Option.map_eq_some_iff.1 hp
      rw [Addr.add_add, h5 q rfl (k * 1 + j) (by omega)]
      simp
end Go.Proofs.YteibkaonofkcbaaGreat
namespace Go.Proofs.YteibkaonofkcbaaGreat
open Go.RowKit
theorem slice_at {w : World} {a : Option Addr} {n cap : Nat} {k : Int} {sv : Value} (h : (Instr.slice 30 (.slice a n cap) (some (.int .i64 k)) none none).run Tryz.prog w = .ok sv w) (hk0 : ∃ m : Nat, k = m ∧ m ≤ n) (w' : World) :
    (Instr.slice 30 (.slice a n cap) (some (.int .i64 k)) none none).run Tryz.prog w' = .ok sv w' := by
  have hk : ∃ m : Nat, k = m ∧ m ≤ n := hk0
  obtain ⟨m, rfl, hm⟩ := hk
  rw [slice_from w' a n cap m hm]
  rw [slice_from w a n cap m hm] at h
  injection h with h1 h2
  rw [h1]
def CutPost (l : List Nat) (w : World) (e : Ending) (w' : World) : Prop := ∃ v, e = .returned v ∧ OB w' w.heap.size v (strip l) ∧ Below w.heap.size w w'
set_option maxRecDepth 20000 in
set_option maxHeartbeats 2000000 in
theorem cut_any (a : Option Addr) (n cap : Nat) (l : List Nat) (w : World) (hb : BSl w (.slice a n cap) l) (hl : l.length ≤ 70368744177664) :
    Calls Tryz.prog 53 #[.slice a n cap] w (CutPost l w) := by
  have hn : n = l.length := by obtain ⟨_, _, hv, _⟩ := hb; injection hv
  have hB := Lib.hid hb
  have HN := Lib.hid hn
  cases a with
  | none =>
    have h0 : l = [] ∧ cap = 0 := by obtain ⟨a', c', hv, _, _, _, h4, _⟩ := hb; injection hv with e1 e2 e3; subst e1 e3; exact h4 rfl
    obtain ⟨rfl, rfl⟩ := h0
    obtain rfl : n = 0 := hn
    clear hb HN
    have hob := ob_new w w.heap.size (Nat.le_refl _)
    have hbn := Lib.hid (hB.out.old ((Below.refl _ w).alloc (Nat.le_refl _) (.cells #[] 5)))
    clear hob
    go_enter Tryz.func53, Tryz.ntmps53
    go_wp2_with fail
    refine wp_loop_rounds 1 ?_
    rw [rounds_succ]
    go_wp2_with (at_builtin; refine wpList_app_bsl rfl _ _ rfl w.heap.size rfl rfl (ob_new w w.heap.size (Nat.le_refl _)) hbn.out (by simp) (by simp) ?_; intro v' w' hob hbw _)
    go_ret
    exact ⟨v', rfl, by simpa [strip] using hob, ((Below.refl _ w).alloc (Nat.le_refl _) _).trans hbw⟩
  | some p =>
    have h5 : ∀ j (h : j < l.length), w.cell? (p.add j) = some (.int .u8 ((l[j]'h : Nat) : Int)) := by obtain ⟨a', c', hv, _, _, _, _, h5⟩ := hb; injection hv with e1 e2 e3; subst e1; exact h5 p rfl
    have hncap : n ≤ cap ∧ cap ≤ maxLen := by obtain ⟨a', c', hv, h1, h2, _⟩ := hb; injection hv with e1 e2 e3; subst e3; omega
    obtain ⟨hnc, hcm⟩ := hncap
    unfold maxLen at hcm
    have H5 := Lib.hid h5
    have hn60 : n ≤ 70368744177664 := by omega
    clear hb hn h5 hl
    go_enter Tryz.func53, Tryz.ntmps53
    go_wp2_with fail
    go_loop [3] (fun i => ∃ k : Nat, k ≤ n ∧ i = .int .i64 k ∧ Hid (∀ j (hj : j < l.length), j < k → l[j]'hj = 0)) (fun i => n - (intOf i).toNat)
    case atStart => exact ⟨0, by omega, rfl, fun j hj h => by omega⟩
    case round =>
      obtain ⟨k, hk, rfl, hz⟩ := hrel
      by_cases hkn : k < n
      · have hkl : k < l.length := by have := HN.out; omega
        have hc := H5.out k hkl
        have hd : decide ((k : Int) < (n : Int)) = true := by simp; omega
        by_cases h0 : l[k]'hkl = 0
        · have hb0 : (((l[k]'hkl : Nat) : Int) == 0) = true := by rw [beq_iff_eq]; omega
          have H0 := Lib.hid h0
          clear h0
          go_wp2
          go_round
          case rel => exact ⟨k + 1, by omega, by go_num, fun j hj hjk => by
            by_cases e : j = k
            · subst e; exact H0.out
            · exact hz.out j hj (by omega)⟩
          case measure => simp [intOf]; omega
        · have hb0 : (((l[k]'hkl : Nat) : Int) == 0) = false := by rw [beq_eq_false_iff_ne]; omega
          have HNE : Hid (∀ h : k < l.length, l[k]'h ≠ 0) := fun _ => h0
          have HL : Hid (n = l.length) := HN
          clear h0
          have HSL := Lib.hid (slice_from w (some p) n cap k (by have := HN.out; omega))
          have HB := Lib.hid (hB.out.from k (by have := HN.out; omega))
          have HST := Lib.hid (strip_drop l k (by have := HN.out; omega) (fun j hj hjk => hz.out j hj hjk) HNE.out)
          obtain ⟨sv, hsv⟩ : ∃ sv, sv = Value.slice (if cap = k then some p else (some p).map (·.add (k * 1))) (n - k) (cap - k) := ⟨_, rfl⟩
          have hsl := HSL.out
          have hbsl := HB.out
          rw [← hsv] at hsl hbsl
          have hbsl' := Lib.hid (BSl.old hbsl ((Below.refl _ w).alloc (Nat.le_refl _) (.cells #[] 5)))
          clear hsv hbsl
          have hsl2 := slice_at hsl ⟨k, rfl, by omega⟩ (w.alloc (.cells #[] 5))
          clear hsl
          go_wp2_with (at_builtin; refine wpList_app_bsl rfl _ _ rfl w.heap.size rfl rfl (ob_new w w.heap.size (Nat.le_refl _)) hbsl'.out (by have := HN.out; rw [List.length_drop]; simp; omega) (by simp) ?_; intro v' w' hob hbw _)
          go_ret
          refine ⟨v', rfl, ?_, ((Below.refl _ w).alloc (Nat.le_refl _) _).trans hbw⟩
          rw [HST.out]
          simpa using hob
      · obtain rfl : k = n := by omega
        have hd : decide ((k : Int) < (k : Int)) = false := by simp
        have HNE : Hid (∀ h : k < l.length, l[k]'h ≠ 0) := fun h => by have := HN.out; omega
        have HSL := Lib.hid (slice_from w (some p) k cap k (by have := HN.out; omega))
        have HB := Lib.hid (hB.out.from k (by have := HN.out; omega))
        have HST := Lib.hid (strip_drop l k (by have := HN.out; omega) (fun j hj hjk => hz.out j hj hjk) HNE.out)
        obtain ⟨sv, hsv⟩ : ∃ sv, sv = Value.slice (if cap = k then some p else (some p).map (·.add (k * 1))) (k - k) (cap - k) := ⟨_, rfl⟩
        have hsl := HSL.out
        have hbsl := HB.out
        rw [← hsv] at hsl hbsl
        have hbsl' := Lib.hid (BSl.old hbsl ((Below.refl _ w).alloc (Nat.le_refl _) (.cells #[] 5)))
        clear hsv hbsl
        have hsl2 := slice_at hsl ⟨k, rfl, by omega⟩ (w.alloc (.cells #[] 5))
        clear hsl
        go_wp2_with (at_builtin; refine wpList_app_bsl rfl _ _ rfl w.heap.size rfl rfl (ob_new w w.heap.size (Nat.le_refl _)) hbsl'.out (by have := HN.out; rw [List.length_drop]; simp; omega) (by simp) ?_; intro v' w' hob hbw _)
        go_ret
        refine ⟨v', rfl, ?_, ((Below.refl _ w).alloc (Nat.le_refl _) _).trans hbw⟩
        rw [HST.out]
        simpa using hob
end Go.Proofs.YteibkaonofkcbaaGreat
