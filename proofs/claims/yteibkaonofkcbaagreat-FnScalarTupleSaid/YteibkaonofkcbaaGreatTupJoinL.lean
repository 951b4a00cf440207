/- Joined texts: StarI64, AsIntX, NumX, Number. -/
import Derived.Test.YteibkaonofkcbaaGreatBigCmp
import Derived.Test.YteibkaonofkcbaaGreatTupJoinH
import Derived.Laws.OwnMore
import Derived.Test.YteibkaonofkcbaaGreatTupJoinK
import Derived.Test.YteibkaonofkcbaaGreatTupJoinJ
import Derived.Deep.QuietTactic
import Derived.BigQuiet
import Derived.Test.YteibkaonofkcbaaGreatNatBytes
import Derived.Laws.DeepNot64
set_option linter.unusedSimpArgs false
set_option linter.unusedVariables false
namespace Go.Proofs.YteibkaonofkcbaaGreat
open Go.RowKit
def BigPost (neg : Bool) (ws : List Nat) (b : Nat) (w : World) (e : Ending) (w' : World) : Prop := e = .returned (.pointer (some ⟨b, 0, none⟩)) ∧ BigI w' 0 b neg ws ∧ Only (· = b) w w'
theorem wrap_max : IntKind.i64.wrap ((9223372036854775807 : Nat) : Int) = 9223372036854775807 := by rw [IntKind.wrap_i64]; omega
theorem wrap_min : IntKind.i64.wrap ((9223372036854775808 : Nat) : Int) = -9223372036854775808 := by rw [IntKind.wrap_i64]; omega
theorem cmp_one {xs : List Nat} {m : Nat} (hm : m < W64) (ht : TopNZ xs) (h0 : xs ≠ []) : 0 < cmpN xs [m] ↔ m < valW xs := by
  match xs, ht, h0 with
  | [x], _, _ =>
    simp only [cmpN, cmpRev, valW, List.length_cons, List.length_nil]
    by_cases h1 : x < m
    · simp [h1]; omega
    · by_cases h2 : m < x
      · simp [h1, h2]
      · simp [h1, h2]
  | x :: y :: r, ht, _ =>
    obtain ⟨init, last, he⟩ : ∃ init last, x :: y :: r = init ++ [last] := ⟨_, _, (List.dropLast_concat_getLast (by simp)).symm⟩
    have hl0 : last ≠ 0 := by unfold TopNZ at ht; rw [he] at ht; simpa using ht
    have h1 := valW_top init last hl0
    have hlen : 1 ≤ init.length := by have := congrArg List.length he; simp at this; omega
    have h2 : W64 ^ 1 ≤ W64 ^ init.length := Nat.pow_le_pow_right (by unfold W64; omega) hlen
    rw [← he, Nat.pow_one] at *
    simp [cmpN]
    omega
theorem int_int64_min (B b : Nat) (ws : List Nat) (w : World) (h : BigI w B b true ws) (hs : valW ws = 9223372036854775808) :
    Calls Tryz.prog 83 #[.pointer (some ⟨b, 0, none⟩)] w (IntPost (-9223372036854775808) w) := by
  obtain ⟨v, hz, how, htop, _, hlen⟩ := h
  obtain ⟨a, c, hv⟩ := how.shape
  obtain ⟨r, hr⟩ : ∃ r, r = ws.length := ⟨_, rfl⟩
  rw [← hr] at hv
  subst hv
  obtain ⟨c0, c1, f0, f1⟩ := blk2 hz
  have HOW := Lib.hid how
  obtain ⟨m, hm⟩ : ∃ m, m = valW ws % W64 := ⟨_, rfl⟩
  have hmv : m = 9223372036854775808 := by rw [hm, hs]; unfold W64; decide
  have hw1 : IntKind.i64.wrap (m : Int) = -9223372036854775808 := by rw [hmv]; exact wrap_min
  have hw2 : IntKind.i64.wrap (9223372036854775808 : Int) = -9223372036854775808 := by rw [IntKind.wrap_i64]; omega
  have HM := Lib.hid hm
  clear hz how hr hs hm hmv
  go_enter Tryz.func83, Tryz.ntmps83
  go_wp2_with fail
  refine (low_64 B _ ws _ HOW.out).mono ?_
  rw [← HM.out]
  rintro e w1 ⟨rfl, rfl⟩
  go_wp2
  go_ret
  exact ⟨rfl, rfl⟩
def Fits64 (n : Int) : Prop := -9223372036854775808 ≤ n ∧ n ≤ 9223372036854775807
def I64APost (n : Int) (w : World) (e : Ending) (w' : World) : Prop := ∃ u a : Int, e = .returned (.tuple #[.int .i64 u, .int .i8 a]) ∧ ((a = 0 ∧ u = n ∧ Fits64 n) ∨ ((a = 1 ∨ a = -1) ∧ ¬ Fits64 n)) ∧ Below w.heap.size w w'
def SI64Post (n : Int) (w : World) (e : Ending) (w' : World) : Prop := ((Fits64 n ∧ e = .returned (.tuple #[.int .i64 n, .bool true])) ∨ (¬ Fits64 n ∧ e = .returned (.tuple #[.int .i64 0, .bool false]))) ∧ Below w.heap.size w w'
end Go.Proofs.YteibkaonofkcbaaGreat
namespace Go.Proofs.YteibkaonofkcbaaGreat
open Go.RowKit
attribute [local go_sem ↓] Go.wp_at_zero Go.wp_at_succ
/-- The place that a value is, if it is one. -/
def idxX : Sx → Option Int
  | .int neg l => if -9223372036854775808 ≤ intOf2 neg l ∧ intOf2 neg l ≤ 9223372036854775807 then some (intOf2 neg l) else none
  | _ => none
theorem idxX_int (neg : Bool) (l : List Nat) : idxX (.int neg l) = if -9223372036854775808 ≤ intOf2 neg l ∧ intOf2 neg l ≤ 9223372036854775807 then some (intOf2 neg l) else none := rfl
theorem idx_some {neg : Bool} {l : List Nat} {k : Int} (h : idxX (.int neg l) = some k) : intOf2 neg l = k ∧ Fits64 k := by
  rw [idxX_int] at h
  by_cases h1 : -9223372036854775808 ≤ intOf2 neg l ∧ intOf2 neg l ≤ 9223372036854775807
  · rw [if_pos h1] at h
    injection h with h
    subst h
    exact ⟨rfl, h1⟩
  · rw [if_neg h1] at h; simp at h
theorem idx_none {neg : Bool} {l : List Nat} (h : idxX (.int neg l) = none) : ¬ Fits64 (intOf2 neg l) := by
  rw [idxX_int] at h
  by_cases h1 : -9223372036854775808 ≤ intOf2 neg l ∧ intOf2 neg l ≤ 9223372036854775807
  · rw [if_pos h1] at h; simp at h
  · exact h1
theorem idx_int {s : Sx} {k : Int} (h : idxX s = some k) : ∃ neg l, s = .int neg l := by
  cases s with
  | int neg l => exact ⟨_, _, rfl⟩
  | _ => simp [idxX] at h
@[go_sem] theorem Tryz.isIntX (v : Value) (w : World) : (Instr.typeAssert (.iface 115 v) 87 115 true).run Tryz.prog w = .ok (.tuple #[v, .bool true]) w := by kernel_rfl
@[go_sem] theorem Tryz.noIntX0 (v : Value) (w : World) : (Instr.typeAssert (.iface 110 v) 87 115 true).run Tryz.prog w = .ok (.tuple #[.agg #[.int .i64 0, .pointer none], .bool false]) w := by kernel_rfl
@[go_sem] theorem Tryz.noIntX1 (v : Value) (w : World) : (Instr.typeAssert (.iface 97 v) 87 115 true).run Tryz.prog w = .ok (.tuple #[.agg #[.int .i64 0, .pointer none], .bool false]) w := by kernel_rfl
@[go_sem] theorem Tryz.noIntX2 (v : Value) (w : World) : (Instr.typeAssert (.iface 117 v) 87 115 true).run Tryz.prog w = .ok (.tuple #[.agg #[.int .i64 0, .pointer none], .bool false]) w := by kernel_rfl
@[go_sem] theorem Tryz.noIntX3 (v : Value) (w : World) : (Instr.typeAssert (.iface 119 v) 87 115 true).run Tryz.prog w = .ok (.tuple #[.agg #[.int .i64 0, .pointer none], .bool false]) w := by kernel_rfl
@[go_sem] theorem Tryz.noIntX4 (v : Value) (w : World) : (Instr.typeAssert (.iface 120 v) 87 115 true).run Tryz.prog w = .ok (.tuple #[.agg #[.int .i64 0, .pointer none], .bool false]) w := by kernel_rfl
@[go_sem] theorem Tryz.toVv (v : Value) (w : World) : (Instr.typeAssert (.iface 128 v) 20 128 true).run Tryz.prog w = .ok (.tuple #[v, .bool true]) w := by kernel_rfl
theorem one_put {w : World} {g : Nat} {t : TypeId} {a : Value} (h : Blk w g t #[a]) (u : Value) : Blk (w.setCell ⟨g, 0, none⟩ u) g t #[u] := by
  have := h.put 0 u
  simpa using this
def AsIYes (g : Nat) (k : Int) (w : World) (e : Ending) (w' : World) : Prop := e = .returned .nilIface ∧ Blk w' g 3 #[.int .i64 k] ∧ Only (· = g) w w'
def UnVPost (g : Nat) (u : Value) (w : World) (e : Ending) (w' : World) : Prop := e = .returned .nilIface ∧ Blk w' g 87 #[u] ∧ Only (· = g) w w'
end Go.Proofs.YteibkaonofkcbaaGreat
namespace Go.Proofs.YteibkaonofkcbaaGreat
open Go.RowKit
attribute [local go_sem ↓] Go.wp_at_zero Go.wp_at_succ
theorem bsl_none (w : World) : BSl w (.slice none 0 0) [] :=
  ⟨none, 0, rfl, Nat.le_refl _, Nat.zero_le _, by simp, fun _ => ⟨rfl, rfl⟩, fun p h => by simp at h⟩
/-- The number that the reference takes a value for. -/
def numX : Sx → Int
  | .int neg l => intOf2 neg l
  | _ => 0
def NumXPost (s : Sx) (w : World) (e : Ending) (w' : World) : Prop := ∃ u B neg l, e = .returned u ∧ SInt w' B u neg l ∧ l.length ≤ 40 ∧ intOf2 neg l = numX s ∧ Below w.heap.size w w'
theorem num_x (v : Value) (s : Sx) (w : World) (hv : XVal w 0 v s) : Calls Tryz.prog 38 #[v] w (NumXPost s w) := by
  have key : ∀ k neg a n c b tx l, v = pv k neg a n c b tx none 0 0 → BSl w (.slice a n c) l → l.length ≤ 40 → intOf2 neg l = numX s → Calls Tryz.prog 38 #[v] w (NumXPost s w) := by
    rintro k neg a n c b tx l rfl hb hl hn
    refine (num_any k neg a n c b tx none 0 0 l w hb (by omega)).mono ?_
    rintro e w' ⟨u, rfl, hsi, hbb⟩
    exact ⟨u, _, _, _, rfl, hsi, Nat.le_trans (strip_le l) hl, by rw [of_val3, hn], hbb⟩
  cases s with
  | none => exact key 0 false none 0 0 0 ⟨#[]⟩ [] hv (bsl_none w) (by simp) rfl
  | bool b => exact key 1 false none 0 0 _ ⟨#[]⟩ [] hv (bsl_none w) (by simp) rfl
  | float f => exact key 3 false none 0 0 _ ⟨#[]⟩ [] hv (bsl_none w) (by simp) rfl
  | str t => exact key 4 false none 0 0 0 t [] hv.1 (bsl_none w) (by simp) rfl
  | byt t => exact key 5 false none 0 0 0 t [] hv.1 (bsl_none w) (by simp) rfl
  | int neg l =>
    obtain ⟨⟨vs, hv, ho, _, _⟩, hl⟩ := hv
    obtain ⟨g, c, hvs, _⟩ := ho.form
    refine key 2 neg (some ⟨g, 0, Option.none⟩) l.length c 0 ⟨#[]⟩ l (by rw [hv, hvs]; rfl) ?_ hl rfl
    rw [← hvs]; exact ho.bsl
def W64Post (s : Sx) (w : World) (e : Ending) (w' : World) : Prop := (∃ k : Int, e = .returned (.tuple #[.int .i64 k, .bool (idxX s).isSome]) ∧ ∀ j, idxX s = some j → k = j) ∧ Below w.heap.size w w'
end Go.Proofs.YteibkaonofkcbaaGreat
namespace Go.Proofs.YteibkaonofkcbaaGreat
open Go.RowKit
theorem bytes_made (n : Nat) (hn : n ≤ 1000000) (w : World) :
    ∃ W1, (Instr.makeSlice 30 (.int .i64 (n : Int)) (.int .i64 (n : Int))).run Tryz.prog w = .ok (.slice (some ⟨w.heap.size, 0, none⟩) n n) W1 ∧ OB W1 w.heap.size (.slice (some ⟨w.heap.size, 0, none⟩) n n) (List.replicate n 0) ∧ Below w.heap.size w W1 := by
  obtain ⟨i0, hi, hz0, hz1, hz2⟩ := info_parts Tryz.infoByte
  have h := run_make (P := Tryz.prog) w 30 5 i0 _ Tryz.underlying30 hi hz0 .i64 .i64 (n : Int) (n : Int) (by omega) (by omega) (by rw [hz2]; omega) (by omega)
  have e : madeCells (Value.int .u8 0).cells ((n : Int).toNat * i0.size) = madeCells #[.int .u8 0] n := by rw [hz1]; simp [Value.cells]
  have e1 : ((n : Int).toNat) = n := by omega
  rw [e, e1] at h
  refine ⟨_, h, ⟨⟨by simp, .inr ⟨w.heap.size, n, _, by simp, Nat.le_refl _, heap_alloc_new w _, by simp, by unfold maxLen; omega, by simp [size_madeCells], ?_⟩⟩, by simp, ?_⟩, (Below.refl _ w).alloc (Nat.le_refl _) _⟩
  · rw [toList_madeCells_one]
    simp [bcells, List.take_replicate]
  · intro x hx
    have := List.eq_of_mem_replicate hx
    omega
def BytesPost (val : Nat) (w : World) (e : Ending) (w' : World) : Prop := ∃ (g o c : Nat) (l : List Nat), e = .returned (.slice (some ⟨g, o, none⟩) l.length c) ∧ BSl w' (.slice (some ⟨g, o, none⟩) l.length c) l ∧ l.head? ≠ some 0 ∧ natOf l = val ∧ (w.heap.size ≤ g ∧ ∃ cs, Blk w' g 5 cs) ∧ Below w.heap.size w w'
set_option maxRecDepth 20000 in
set_option maxHeartbeats 1000000 in
theorem big_bytes (B b : Nat) (neg : Bool) (ws : List Nat) (w : World) (h : BigI w B b neg ws) :
    Calls Tryz.prog 73 #[.pointer (some ⟨b, 0, none⟩)] w (BytesPost (valW ws) w) := by
  obtain ⟨v, hk, how, ht, hneg, hlen⟩ := h
  obtain ⟨a, c, hva⟩ := how.shape
  obtain ⟨m, hm⟩ : ∃ m, m = ws.length := ⟨_, rfl⟩
  rw [← hm] at hva
  subst hva
  obtain ⟨n, hn⟩ : ∃ n : Nat, (m : Int) * 8 = (n : Int) := ⟨m * 8, by omega⟩
  obtain ⟨W1, hmk, hob, hbw⟩ := bytes_made n (by omega) w
  obtain ⟨x0, x1, fx0, fx1⟩ := blk2 hk
  obtain ⟨y0, y1, fy0, fy1⟩ := blk2 (hk.below hbw hk.lt)
  have hne : ∀ p, a = some p → p.block ≠ w.heap.size := fun p e => by
    subst e
    have := (how.1.lt p.block rfl).2
    omega
  have HB := Lib.hid (nat_bytes B w.heap.size w.heap.size n m a c ws (List.replicate n 0) W1 (how.below hbw) hob (by simp) (fun j h => List.eq_of_mem_replicate (List.getElem_mem h)) (by omega) hm (by omega) hne)
  have HBW := Lib.hid hbw
  have hn8 : n ≤ 8000 := by omega
  clear hk how ht hneg hlen hm hne hob
  go_enter Tryz.func73, Tryz.ntmps73
  go_wp2_with fail
  refine HB.out.mono ?_
  rintro e w2 ⟨i, l, rfl, hi, hob, hll, hnat, hst, hO⟩
  have hs := fun W => slice_from W (some ⟨w.heap.size, 0, none⟩) n n i hi
  have hbs := (OB.bsl hob)
  have HBT : Hid (∃ cs, Blk w2 w.heap.size 5 cs) := Blk.of_own (g := w.heap.size) (n := 0) (c := 0) hob.1 rfl
  have hbf := hbs.from i hi
  obtain ⟨o, hA⟩ : ∃ o, (if n = i then (some ⟨w.heap.size, 0, none⟩ : Option Addr) else (some ⟨w.heap.size, 0, none⟩ : Option Addr).map (·.add (i * 1))) = some ⟨w.heap.size, o, none⟩ := by
    split
    · exact ⟨0, rfl⟩
    · exact ⟨0 + i * 1, by simp [Addr.add_lit]⟩
  rw [hA] at hbf
  simp only [hA] at hs
  obtain ⟨q, hq⟩ : ∃ q, q = n - i := ⟨_, rfl⟩
  rw [← hq] at hbf
  simp only [← hq] at hs
  have hql : q = (l.drop i).length := by rw [List.length_drop, hll]; exact hq
  have HBF := Lib.hid hbf
  have HST := Lib.hid hst
  have HNAT := Lib.hid hnat
  have HQL := Lib.hid hql
  have HO : Hid (Below w.heap.size w w2) := HBW.out.trans (hO.to_below HBW.out.size (fun k _ e => by omega))
  clear hob hll hnat hst hO hbs hbf hA hq hql
  go_wp2
  go_ret
  refine ⟨w.heap.size, o, q, l.drop i, by rw [← HQL.out]; rfl, by rw [← HQL.out]; exact HBF.out, by rw [← HST.out]; exact strip_head l, by rw [← HST.out, natOf_strip]; exact HNAT.out, ⟨Nat.le_refl _, HBT.out⟩, HO.out⟩
def BigNewPost (n : Int) (w : World) (e : Ending) (w' : World) : Prop := ∃ b neg ws, e = .returned (.pointer (some ⟨b, 0, none⟩)) ∧ BigI w' 0 b neg ws ∧ valI neg ws = n ∧ Below w.heap.size w w'
set_option maxHeartbeats 1000000 in
theorem star_bigInt (B : Nat) (v : Value) (n : Int) (w : World) (hv : SI w B v n) :
    Calls Tryz.prog 71 #[v] w (BigNewPost n w) := by
  rcases hv with ⟨hs, rfl⟩ | ⟨hs, b, neg, ws, rfl, _, hbi, hval⟩
  · have h1 := of_decide_eq_true hs
    have HNI := Lib.hid (fun W => new_int n h1.1 h1.2 W)
    clear hs h1
    go_enter Tryz.func71, Tryz.ntmps71
    go_wp2_with fail
    refine (int_get n none _).mono ?_
    rintro e w1 ⟨rfl, hb1⟩
    have HBW := Lib.hid (((Below.refl _ w).alloc (Nat.le_refl _) _).trans (hb1.mono (by simp)))
    clear hb1
    go_wp2_with fail
    refine (HNI.out _).mono ?_
    rintro e w2 ⟨b, neg, ws, rfl, hge, hbi, hval, hb2⟩
    have HBI := Lib.hid hbi
    have HV := Lib.hid hval
    have HB2 := Lib.hid (HBW.out.trans (hb2.mono HBW.out.size))
    clear hge hbi hval hb2
    go_wp2
    go_ret
    exact ⟨b, neg, ws, rfl, HBI.out, HV.out, HB2.out⟩
  · have HV := Lib.hid hval
    have HBI := Lib.hid (hbi.below ((Below.refl _ w).alloc (Nat.le_refl _) (.cells #[.int .i64 0, .pointer (some ⟨b, 0, none⟩)] 115)))
    clear hs hval hbi
    go_enter Tryz.func71, Tryz.ntmps71
    go_wp2_with fail
    refine (int_get 0 (some ⟨b, 0, none⟩) _).mono ?_
    rintro e w1 ⟨rfl, hb1⟩
    have HBI1 := Lib.hid (HBI.out.below hb1)
    have HBW := Lib.hid (((Below.refl _ w).alloc (Nat.le_refl _) _).trans (hb1.mono (by simp)))
    clear hb1
    have HBI2 := Lib.hid (HBI1.out.below ((Below.refl _ w1).alloc (Nat.le_refl _) (.cells #[.bool false, .slice none 0 0] 136)))
    have hlt := HBI1.out.blk
    go_wp2_with fail
    refine (int_set B w1.heap.size b neg ws _ (Blk.new w1 136 #[.bool false, .slice none 0 0]) HBI2.out (by omega)).mono ?_
    rintro e w2 ⟨rfl, hb2, hO⟩
    have HB2 := Lib.hid (hb2.base (Nat.zero_le _))
    have HBF : Hid (Below w.heap.size w w2) := HBW.out.trans (((Below.refl _ w1).alloc (Nat.le_refl _) _ |>.trans (hO.to_below (B := w1.heap.size) (by simp) (fun k hk e => by omega))).mono HBW.out.size)
    clear hb2 hO
    go_wp2
    go_ret
    exact ⟨w1.heap.size, neg, ws, rfl, HB2.out, HV.out, HBF.out⟩
theorem block_add (p : Addr) (j : Nat) : (p.add j).block = p.block := by unfold Addr.add; split <;> rfl
theorem bsl_only {w w' : World} {a : Option Addr} {n c R : Nat} {l : List Nat} (h : BSl w (.slice a n c) l) (k : Only (· = R) w w') (hne : ∀ p, a = some p → p.block ≠ R) : BSl w' (.slice a n c) l := by
  obtain ⟨a', c', hv, h1, h2, h3, h4, h5⟩ := h
  refine ⟨a', c', hv, h1, h2, h3, h4, fun p hp j hj => ?_⟩
  injection hv with e1
  have hc := h5 p hp j hj
  have hlt := World.block_lt_of_cell? w _ hc
  rw [← hc]
  exact World.cell?_of_block (k.block _ hlt (by rw [block_add]; exact hne p (by rw [e1, hp])))
/-- An integer of the thin package that reads so. -/
def NumV (w : World) (B : Nat) (v : Value) (neg : Bool) (l : List Nat) : Prop := ∃ (g o c : Nat), v = .agg #[.int .i64 2, .bool neg, .slice (some ⟨g, o, none⟩) l.length c, .int .u64 0, .string ⟨#[]⟩, .slice none 0 0] ∧ BSl w (.slice (some ⟨g, o, none⟩) l.length c) l ∧ (B ≤ g ∧ ∃ cs, Blk w g 5 cs) ∧ l.head? ≠ some 0 ∧ (neg = true → l ≠ [])
def NumVPost (n : Int) (w : World) (e : Ending) (w' : World) : Prop := ∃ v neg l, e = .returned v ∧ NumV w' w.heap.size v neg l ∧ intOf2 neg l = n ∧ Below w.heap.size w w'
theorem signW_neg (neg : Bool) (ws : List Nat) (hn : neg = true → ws ≠ []) : decide (signW neg ws < 0) = neg := by
  unfold signW
  cases neg
  · simp; split <;> omega
  · have := hn rfl
    simp [this]
set_option maxRecDepth 20000 in
set_option maxHeartbeats 2000000 in
theorem impl_number (B : Nat) (x : Int) (p : Option Addr) (n : Int) (w : World) (hv : SI w B (.agg #[.int .i64 x, .pointer p]) n) :
    Calls Tryz.prog 62 #[.agg #[.int .i64 x, .pointer p]] w (NumVPost n w) := by
  have HV := Lib.hid hv
  have HK := Lib.hid (Blk.new_at (w.alloc (.cells #[.int .i64 x, .pointer p] 115)) 33 #[.int .i64 0, .bool false, .slice none 0 0, .int .u64 0, .string ⟨#[]⟩, .slice none 0 0] (n := w.heap.size + 1) (by simp))
  have HB0 : Hid (∀ a b : Obj, Below w.heap.size w ((w.alloc a).alloc b)) := fun a b => ((Below.refl _ w).alloc (Nat.le_refl _) a).alloc (by simp) b
  clear hv
  go_enter Tryz.func62, Tryz.ntmps62
  go_wp2_with fail
  refine (star_bigInt B _ n _ (HV.out.below (HB0.out _ _))).mono ?_
  rintro e w1 ⟨b, neg, ws, rfl, hbi, hval, hb1⟩
  have HBI := Lib.hid hbi
  have HVAL := Lib.hid hval
  have HB1 := Lib.hid ((HB0.out _ _).trans (hb1.mono (HB0.out _ _).size))
  have k1 := Lib.hid (HK.out.below hb1 (by simp))
  have HSN : Hid (decide (signW neg ws < 0) = neg) := by obtain ⟨_, _, _, _, hn, _⟩ := hbi; exact signW_neg neg ws hn
  have HNZ : Hid (neg = true → valW ws ≠ 0) := by
    obtain ⟨_, _, _, ht, hn, _⟩ := hbi
    intro h e
    have h0 := hn h
    obtain ⟨init, last, rfl⟩ : ∃ init last, ws = init ++ [last] := ⟨ws.dropLast, ws.getLast h0, (List.dropLast_concat_getLast h0).symm⟩
    have hl0 : last ≠ 0 := by unfold TopNZ at ht; simpa using ht
    have h1 := valW_top init last hl0
    have h2 : 0 < W64 ^ init.length := Nat.pow_pos W64_pos
    omega
  have hz1 : w.heap.size + 1 < w1.heap.size := by have := k1.out.lt; exact this
  clear hbi hval hb1
  obtain ⟨sg, hsg⟩ : ∃ sg, sg = signW neg ws := ⟨_, rfl⟩
  have hsgd := HSN.out
  rw [← hsg] at hsgd
  have HSG := Lib.hid hsg
  clear hsg
  go_wp2_with fail
  refine (big_sign 0 b neg ws _ HBI.out).mono ?_
  unfold SignWPost
  rw [← HSG.out]
  rintro e w2 ⟨rfl, rfl⟩
  go_wp2_with fail
  refine (big_bytes 0 b neg ws _ HBI.out).mono ?_
  rintro e w3 ⟨g, o, c, l, rfl, hbs, hh, hnat, hab, hb3⟩
  have HAB := Lib.hid hab
  obtain ⟨q, hq⟩ : ∃ q, q = l.length := ⟨_, rfl⟩
  rw [← hq]
  have HBS := Lib.hid hbs
  have HH := Lib.hid hh
  have HNAT := Lib.hid hnat
  have HQ := Lib.hid hq
  have HB3 := Lib.hid (HB1.out.trans (hb3.mono HB1.out.size))
  obtain ⟨e0, e1, e2, e3, e4, e5, f0, f1, f2, f3, f4, f5⟩ := blk6 (k1.out.below hb3 k1.out.lt)
  have k3 := Lib.hid (k1.out.below hb3 k1.out.lt)
  clear hbs hh hnat hq hb3 hab
  go_wp2
  refine bodyPost_ret (v := .agg #[.int .i64 2, .bool neg, .slice (some ⟨g, o, none⟩) q c, .int .u64 0, .string ⟨#[]⟩, .slice none 0 0]) (by simp [results, Tryz.results62, go_sem, e0, e1, e2, e3, e4, e5]) rfl ?_
  have hO := six_set w3 (w.heap.size + 1) (.int .i64 2) (.bool neg) (.slice (some ⟨g, o, none⟩) q c) (.int .u64 0) (.string ⟨#[]⟩) (.slice none 0 0)
  refine ⟨_, neg, l, rfl, ⟨g, o, c, by rw [HQ.out], bsl_only HBS.out hO (fun p e => by injection e with e; subst e; have := HAB.out.1; show g ≠ _; omega), ⟨by have := HAB.out.1; omega, by obtain ⟨cs, hcs⟩ := HAB.out.2; exact ⟨cs, hcs.only hO (by have := HAB.out.1; omega)⟩⟩, HH.out, fun h e => ?_⟩, ?_, ?_⟩
  · have h1 := HNAT.out
    rw [e] at h1
    exact HNZ.out h h1.symm
  · rw [← HVAL.out]; exact intOf2_valI HNAT.out.symm
  · exact ((((((HB3.out.setCell (p := ⟨w.heap.size + 1, 0, none⟩) (by simp) _).setCell (p := ⟨w.heap.size + 1, 1, none⟩) (by simp) _).setCell (p := ⟨w.heap.size + 1, 2, none⟩) (by simp) _).setCell (p := ⟨w.heap.size + 1, 3, none⟩) (by simp) _).setCell (p := ⟨w.heap.size + 1, 4, none⟩) (by simp) _).setCell (p := ⟨w.heap.size + 1, 5, none⟩) (by simp) _)
end Go.Proofs.YteibkaonofkcbaaGreat
