/- any, over a list. -/
import Derived.Test.YtmpfffcdpecadaaGreatStarTruth
import Derived.Test.YtmpfffcdpecadaaGreatUnIter
import Derived.Test.YtmpfffcdpecadaaGreatImplList
import Derived.Deep.LoopGhost
import Derived.Tactics
import Derived.Defers
namespace Go.Proofs.YtmpfffcdpecadaaGreat
open Go.RowKit
attribute [local go_sem ↓] Go.wp_at_zero Go.wp_at_succ
@[go_sem] theorem Tryz.mIterate (a : Addr) (w : World) : (method 389 42 (.pointer (some a)) "Iterate").run Tryz.prog w = .ok (146, .pointer (some a)) w := by kernel_rfl
@[go_sem] theorem Tryz.mNext (a : Addr) (w : World) : (method 389 242 (.pointer (some a)) "Next").run Tryz.prog w = .ok (207, .pointer (some a)) w := by kernel_rfl
@[go_sem] theorem Tryz.mDone (a : Addr) (w : World) : (method 389 242 (.pointer (some a)) "Done").run Tryz.prog w = .ok (206, .pointer (some a)) w := by kernel_rfl
@[go_sem] theorem Tryz.mT0 (x : Int) (w : World) : (method 389 91 (.int .u8 x) "Truth").run Tryz.prog w = .ok (157, .int .u8 x) w := by kernel_rfl
@[go_sem] theorem Tryz.mT1 (x : Bool) (w : World) : (method 389 85 (.bool x) "Truth").run Tryz.prog w = .ok (152, .bool x) w := by kernel_rfl
@[go_sem] theorem Tryz.mT2 (k : Int) (p : Option Addr) (w : World) : (method 389 96 (.agg #[.int .i64 k, .pointer p]) "Truth").run Tryz.prog w = .ok (163, .agg #[.int .i64 k, .pointer p]) w := by kernel_rfl
@[go_sem] theorem Tryz.mT3 (x : Nat) (w : World) : (method 389 98 (.float .f64 x) "Truth").run Tryz.prog w = .ok (170, .float .f64 x) w := by kernel_rfl
@[go_sem] theorem Tryz.mT4 (x : ByteArray) (w : World) : (method 389 100 (.string x) "Truth").run Tryz.prog w = .ok (175, .string x) w := by kernel_rfl
@[go_sem] theorem Tryz.mT5 (x : ByteArray) (w : World) : (method 389 101 (.string x) "Truth").run Tryz.prog w = .ok (180, .string x) w := by kernel_rfl
/-- Values of the package stay where blocks of other types are written. -/
theorem SI.apart {S : Nat → Prop} {w w' : World} {B : Nat} {v : Value} {n : Int} (h : SI w B v n) (hs : ∀ g, S g → g < w.heap.size → ∃ t cs, Blk w g t cs ∧ 138 ≠ t ∧ 194 ≠ t) (k : Only S w w') : SI w' B v n := by
  rcases h with h | ⟨hs0, b, neg, ws, hv, hb, ⟨x, hk, ho, hr⟩, he⟩
  · exact .inl h
  · refine .inr ⟨hs0, b, neg, ws, hv, hb, ⟨x, hk.only k ?_, ⟨own_only ho.1 k (fun q hq e => ?_), ho.2⟩, hr⟩, he⟩
    · intro e
      obtain ⟨t, cs, hg, h1, _⟩ := hs _ e hk.lt
      have := hk.symm.trans hg
      injection this with h
      injection h with _ h
      exact h1 h
    · obtain ⟨cs0, hq0⟩ := Blk.of_own (g := q) (n := 0) (c := 0) ho.1 hq
      obtain ⟨t, cs, hg, _, h2⟩ := hs _ e hq0.lt
      exact own_ne_blk ho.1 hg h2 q hq rfl
theorem TVal.apart {S : Nat → Prop} {w w' : World} {u : Value} {s : Sx} (h : TVal w u s) (hs : ∀ g, S g → g < w.heap.size → ∃ t cs, Blk w g t cs ∧ 138 ≠ t ∧ 194 ≠ t) (k : Only S w w') : TVal w' u s := by
  cases s with
  | int neg l => obtain ⟨v, e, h⟩ := h; exact ⟨v, e, h.apart hs k⟩
  | _ => exact h
theorem RowT.apart {S : Nat → Prop} {w w' : World} {B : Nat} {v : Value} {ps : List (Value × Sx)} (h : RowT w B v ps) (hv : ∀ g, v.ownBlock = some g → ¬ S g) (hs : ∀ g, S g → g < w.heap.size → ∃ t cs, Blk w g t cs ∧ 138 ≠ t ∧ 194 ≠ t) (k : Only S w w') : RowT w' B v ps :=
  ⟨own_only h.1 k hv, fun p hp => (h.2 p hp).apart hs k⟩
set_option maxRecDepth 100000 in
set_option maxHeartbeats 1000000 in
theorem done_d (it L : Nat) (v : Value) (i : Int) (u : FrameMode) (w : World) (hI : IterB w it L i) (hL : ListB w L v 1) :
    CallsD Tryz.prog 206 #[.pointer (some ⟨it, 0, none⟩)] u w fun e u' w' => u' = u ∧ (e = .returned (.tuple #[]) ∧ ListB w' L v 0 ∧ Only (· = L) w w') := by
  have HK := Lib.hid (Blk.put hL 2 (.int .u32 0))
  have HO := Lib.hid ((Only.refl (· = L) w).setCell (p := ⟨L, 2, none⟩) (.inl (rfl : L = L)) (.int .u32 0))
  obtain ⟨c0, c1, c2, f0, f1, f2⟩ := blk_three hL
  obtain ⟨i0, i1⟩ : _ ∧ _ := ⟨(Blk.cell hI 0).trans rfl, (Blk.cell hI 1).trans rfl⟩
  clear hI hL
  go_enter_d Tryz.func206, Tryz.ntmps206
  go_wp2
  go_end0
  exact ⟨rfl, HK.out, HO.out⟩
theorem row_at {w : World} {B : Nat} {v : Value} {ps : List (Value × Sx)} (h : RowT w B v ps) (i : Nat) (hi : i < ps.length) :
    ∃ g cap, v = .slice (some ⟨g, 0, none⟩) ps.length cap ∧ g < w.heap.size ∧ B ≤ g ∧ w.cell? ⟨g, i, none⟩ = some (ps[i]'hi).1 := by
  rcases h.1.2 with ⟨_, h0⟩ | ⟨g, cap, cur, rfl, hb, hh, _⟩
  · omega
  · refine ⟨g, cap, rfl, (Array.getElem?_eq_some_iff.1 hh).1, hb, ?_⟩
    have := h.1.cells (g := g) rfl i (ps[i]'hi).1 (by simp [hi])
    rw [Addr.add_lit] at this
    simpa using this
theorem t_post {P : Program} {F : FuncId} {args : Array Value} {w : World} {b q : Bool} (h : Calls P F args w fun e w' => e = .returned (.bool b) ∧ w = w') (hq : b = q) : Calls P F args w fun e w' => e = .returned (.bool q) ∧ Below w.heap.size w w' := by
  subst hq
  exact h.mono fun _ _ ⟨he, hw⟩ => ⟨he, hw ▸ Below.refl _ _⟩
theorem t_post2 {P : Program} {F : FuncId} {args : Array Value} {w : World} {b q : Bool} (h : Calls P F args w fun e w' => e = .returned (.bool b) ∧ Below w.heap.size w w') (hq : b = q) : Calls P F args w fun e w' => e = .returned (.bool q) ∧ Below w.heap.size w w' := by
  subst hq
  exact h
def AnyRel (w : World) (B L it x n : Nat) (v : Value) (ps : List (Value × Sx)) (i : Nat) (wr : World) : Prop :=
  ∃ old, IterB wr it L (i : Int) ∧ ListB wr L v 1 ∧ Blk wr x 49 #[old] ∧ RowT wr B v ps ∧ Only (· = L) w wr ∧ (∀ k (hk : k < ps.length), k < i → truthX (ps[k]'hk).2 = false)
set_option maxRecDepth 100000 in
set_option maxHeartbeats 4000000 in
theorem any_at (L A ca B : Nat) (v : Value) (ps : List (Value × Sx)) (w : World) (hA : w.cell? ⟨A, 0, none⟩ = some (.iface 42 (.pointer (some ⟨L, 0, none⟩)))) (hL : ListB w L v 0) (hR : RowT w B v ps) (hl : ps.length ≤ 1000) :
    Calls Tryz.prog 46 #[.pointer none, .pointer none, .slice (some ⟨A, 0, none⟩) 1 ca, .slice none 0 0] w fun e w' => e = .returned (.tuple #[.iface 85 (.bool (ps.any fun p => truthX p.2)), .nilIface]) ∧ Only (· = L) w w' := by
  have hAl : A < w.heap.size := World.block_lt_of_cell? w _ hA
  have hLl : L < w.heap.size := hL.lt
  have hVl : ∀ g, v.ownBlock = some g → g < w.heap.size := fun g hg => (hR.1.lt g hg).2
  have HVl := Lib.hid hVl
  have hvL : ∀ g, v.ownBlock = some g → g ≠ L := fun g hg => own_ne_blk hR.1 hL (by decide) g hg
  have HvL := Lib.hid hvL
  have HB0 := Lib.hid ((Below.refl w.heap.size w).alloc (Nat.le_refl _) (.cells #[.nilIface] 127))
  have HL := Lib.hid hL
  have HR := Lib.hid hR
  have HA := Lib.hid hA
  clear hA hL hR hVl hvL
  go_enter_defers Tryz.func46, Tryz.ntmps46
  go_wp2_with fail
  have HB1 := Lib.hid (HB0.out.alloc (by simp) (.cells #[.iface 128 (.pointer (some ⟨w.heap.size, 0, none⟩))] 20))
  refine (unpack_one _ (.pointer (some ⟨L, 0, none⟩)) _ A ca (w.heap.size + 1) 1 w.heap.size _ ((HB1.out.cell (p := ⟨A, 0, none⟩) hAl).trans HA.out) (((Blk.new_at (w.alloc (.cells #[.nilIface] 127)) 20 #[.iface 128 (.pointer (some ⟨w.heap.size, 0, none⟩))] (n := w.heap.size + 1) (by simp)).cell 0).trans rfl) ((Blk.new w 127 #[.nilIface]).alloc _)).mono ?_
  rintro e w2 ⟨rfl, hk2, ho2⟩
  have HB2 := Lib.hid (HB1.out.trans (ho2.to_below HB1.out.size (fun k _ e => by omega)))
  obtain ⟨a0, a1⟩ := blk_one hk2
  clear hk2 ho2
  go_wp2_with fail
  refine (iterate_any L v _ (HL.out.below HB2.out hLl)).mono ?_
  rintro e w3 ⟨it, rfl, hit, hi3, hl3, ho3⟩
  have hsz2 := HB2.out.size
  have hsz3 := hi3.lt
  obtain ⟨x, hx⟩ : ∃ x, x = w3.heap.size := ⟨_, rfl⟩
  have hr3 : RowT w3 B v ps := (HR.out.below HB2.out).apart (fun g hg => HvL.out g hg) (fun g hg _ => ⟨_, _, hg ▸ HL.out.below HB2.out hLl, by decide, by decide⟩) ho3
  have HREL : Hid (AnyRel w B L it x 0 v ps 0 (w3.alloc (.cells #[.nilIface] 49))) :=
    ⟨_, hi3.alloc _, hl3.alloc _, hx ▸ Blk.new w3 _ _, hr3.below ((Below.refl _ _).alloc (Nat.le_refl _) _), ((Only.of_below HB2.out).trans (ho3.mono (fun k _ h => h))).alloc _, fun k hk h => absurd h (Nat.not_lt_zero _)⟩
  have hxit : it < x := by omega
  have hitL : L < it := by omega
  have hitw : w.heap.size ≤ it := by omega
  have HX := Lib.hid hx
  clear hi3 hl3 ho3 hr3 hsz2 hsz3 hit hx
  go_wp2_with fail
  rw [← HX.out]
  go_loopg [26, 27, 28, 29] ps.length (fun k _ _ _ _ wr => ∃ i : Nat, k + i = ps.length ∧ Hid (AnyRel w B L it x 0 v ps i wr))
  case atStart => exact ⟨0, rfl, HREL⟩
  case round =>
    obtain ⟨i, hk0, hrel⟩ := hrel
    have HK := Lib.hid hk0
    have hkle : gk + i ≤ ps.length := by omega
    have hkge : ps.length ≤ gk + i := by omega
    clear hk0
    obtain ⟨old, hI, hL4, hX, hR4, hO, hF⟩ := hrel.out
    have hsz4 := hO.size
    by_cases hi : i < ps.length
    · obtain ⟨g, cap, hv, hgl, hBg, hcell⟩ := row_at hR4 i hi
      have HV := Lib.hid hv
      have hgw : g < w.heap.size := HVl.out g (by rw [hv]; rfl)
      have hgL : g ≠ L := HvL.out g (by rw [hv]; rfl)
      obtain ⟨u, s, hus⟩ : ∃ u s, ps[i] = (u, s) := ⟨_, _, rfl⟩
      have htv : TVal wr u s := by have := hR4.2 _ (List.getElem_mem hi); rw [hus] at this; exact this
      rw [hus] at hcell
      have hxg : g ≠ x := by have := hX.lt; have := HX.out; have := HB2.out.size; omega
      have hgit : g ≠ it := by have := HB2.out.size; omega
      have HNEXT := Lib.hid (next_yes it L x ps.length cap g i 1 u old wr hI (by rw [← hv]; exact hL4) hX hcell htv.iface hi hl (by omega) (by omega) hxg)
      have HKEEP : Hid (∀ w', Only (fun b => b = it ∨ b = x) wr w' → ListB w' L v 1 ∧ RowT w' B v ps ∧ TVal w' u s ∧ Only (· = L) w w') := fun w' ho => by
        have hs : ∀ q, (fun b => b = it ∨ b = x) q → q < wr.heap.size → ∃ t cs, Blk wr q t cs ∧ 138 ≠ t ∧ 194 ≠ t := by
          rintro q (rfl | rfl) _
          · exact ⟨_, _, hI, by decide, by decide⟩
          · exact ⟨_, _, hX, by decide, by decide⟩
        refine ⟨Blk.only hL4 ho (by omega), hR4.apart (fun q hq e => ?_) hs ho, htv.apart hs ho, ?_⟩
        · obtain rfl : g = q := by rw [hv] at hq; injection hq
          rcases e with e | e <;> omega
        · have hx4 := HX.out
          have hb2 := HB2.out.size
          exact ⟨ho.os.trans hO.os, ho.tape.trans hO.tape, ho.output.trans hO.output, Nat.le_trans hO.size ho.size, fun q hq hn => (ho.block q (by omega) (by omega)).trans (hO.block q hq hn)⟩
      have HUS := Lib.hid hus
      have HF := Lib.hid hF
      clear hI hL4 hX hR4 hO hcell hgit hxg hgL hBg hgl hv hrel hus hF
      go_wp2_with fail
      refine HNEXT.out.mono ?_
      rintro e w5 ⟨rfl, hi5, hx5, ho5⟩
      obtain ⟨k1, k2, k3, k4⟩ := HKEEP.out _ ho5
      have HI5 := Lib.hid hi5
      have HX5 := Lib.hid hx5
      have HL5 := Lib.hid k1
      have HR5 := Lib.hid k2
      have HT5 := Lib.hid k3
      have HO5 := Lib.hid k4
      obtain ⟨x0, x1⟩ := blk_one hx5
      clear hi5 hx5 ho5 k1 k2 k3 k4 HKEEP HNEXT
      cases hq : truthX s with
      | true =>
        cases s with
        | none =>
          have HQ := Lib.hid hq
          obtain rfl := HT5.out
          have HT := Lib.hid (t_post (none_truth _ : Calls Tryz.prog _ _ w5 _) hq)
          clear hq
          have HE : Hid ((ps.any fun p => truthX p.2) = true) := List.any_eq_true.2 ⟨ps[i], List.getElem_mem hi, by rw [HUS.out]; exact HQ.out⟩
          go_wp2_with fail
          refine HT.out.mono ?_
          rintro e w6 ⟨rfl, hb6⟩
          have HI6 : Hid (IterB w6 it L ((i + 1 : Nat) : Int)) := HI5.out.below hb6 HI5.out.lt
          have HL6 : Hid (ListB w6 L v 1) := HL5.out.below hb6 HL5.out.lt
          have HO6 := Lib.hid (HO5.out.below hb6)
          clear hb6
          go_wp2_with fail
          refine leaves_cons (f := 206) (args := #[.pointer (some ⟨it, 0, none⟩)]) (by simp) (by simp [go_sem]) ?_
          refine (done_d it L v _ _ _ HI6.out HL6.out).mono ?_
          rintro e u' w8 ⟨rfl, rfl, _, ho8⟩
          have HO8 := Lib.hid ho8
          clear ho8
          rw [HE.out]
          exact ⟨_, results_tmp2 rfl _ _ _, rfl, HO6.out.trans HO8.out⟩
        | bool b =>
          have HQ := Lib.hid hq
          obtain rfl := HT5.out
          have HT := Lib.hid (t_post (bool_truth b _ : Calls Tryz.prog _ _ w5 _) hq)
          clear hq
          have HE : Hid ((ps.any fun p => truthX p.2) = true) := List.any_eq_true.2 ⟨ps[i], List.getElem_mem hi, by rw [HUS.out]; exact HQ.out⟩
          go_wp2_with fail
          refine HT.out.mono ?_
          rintro e w6 ⟨rfl, hb6⟩
          have HI6 : Hid (IterB w6 it L ((i + 1 : Nat) : Int)) := HI5.out.below hb6 HI5.out.lt
          have HL6 : Hid (ListB w6 L v 1) := HL5.out.below hb6 HL5.out.lt
          have HO6 := Lib.hid (HO5.out.below hb6)
          clear hb6
          go_wp2_with fail
          refine leaves_cons (f := 206) (args := #[.pointer (some ⟨it, 0, none⟩)]) (by simp) (by simp [go_sem]) ?_
          refine (done_d it L v _ _ _ HI6.out HL6.out).mono ?_
          rintro e u' w8 ⟨rfl, rfl, _, ho8⟩
          have HO8 := Lib.hid ho8
          clear ho8
          rw [HE.out]
          exact ⟨_, results_tmp2 rfl _ _ _, rfl, HO6.out.trans HO8.out⟩
        | int neg l =>
          have HQ := Lib.hid hq
          obtain ⟨y, rfl, hy⟩ := HT5.out
          have HY := Lib.hid hy
          obtain ⟨k, q, rfl⟩ := hy.shape
          clear hy
          have HT := Lib.hid (t_post2 (int_truth 0 _ _ w5 HY.out) hq)
          clear hq
          have HE : Hid ((ps.any fun p => truthX p.2) = true) := List.any_eq_true.2 ⟨ps[i], List.getElem_mem hi, by rw [HUS.out]; exact HQ.out⟩
          go_wp2_with fail
          refine HT.out.mono ?_
          rintro e w6 ⟨rfl, hb6⟩
          have HI6 : Hid (IterB w6 it L ((i + 1 : Nat) : Int)) := HI5.out.below hb6 HI5.out.lt
          have HL6 : Hid (ListB w6 L v 1) := HL5.out.below hb6 HL5.out.lt
          have HO6 := Lib.hid (HO5.out.below hb6)
          clear hb6
          go_wp2_with fail
          refine leaves_cons (f := 206) (args := #[.pointer (some ⟨it, 0, none⟩)]) (by simp) (by simp [go_sem]) ?_
          refine (done_d it L v _ _ _ HI6.out HL6.out).mono ?_
          rintro e u' w8 ⟨rfl, rfl, _, ho8⟩
          have HO8 := Lib.hid ho8
          clear ho8
          rw [HE.out]
          exact ⟨_, results_tmp2 rfl _ _ _, rfl, HO6.out.trans HO8.out⟩
        | float f =>
          have HQ := Lib.hid hq
          obtain rfl := HT5.out
          have HT := Lib.hid (t_post (float_truth f _ : Calls Tryz.prog _ _ w5 _) hq)
          clear hq
          have HE : Hid ((ps.any fun p => truthX p.2) = true) := List.any_eq_true.2 ⟨ps[i], List.getElem_mem hi, by rw [HUS.out]; exact HQ.out⟩
          go_wp2_with fail
          refine HT.out.mono ?_
          rintro e w6 ⟨rfl, hb6⟩
          have HI6 : Hid (IterB w6 it L ((i + 1 : Nat) : Int)) := HI5.out.below hb6 HI5.out.lt
          have HL6 : Hid (ListB w6 L v 1) := HL5.out.below hb6 HL5.out.lt
          have HO6 := Lib.hid (HO5.out.below hb6)
          clear hb6
          go_wp2_with fail
          refine leaves_cons (f := 206) (args := #[.pointer (some ⟨it, 0, none⟩)]) (by simp) (by simp [go_sem]) ?_
          refine (done_d it L v _ _ _ HI6.out HL6.out).mono ?_
          rintro e u' w8 ⟨rfl, rfl, _, ho8⟩
          have HO8 := Lib.hid ho8
          clear ho8
          rw [HE.out]
          exact ⟨_, results_tmp2 rfl _ _ _, rfl, HO6.out.trans HO8.out⟩
        | str t =>
          have HQ := Lib.hid hq
          obtain rfl := HT5.out
          have HT := Lib.hid (t_post (str_truth t _ : Calls Tryz.prog _ _ w5 _) hq)
          clear hq
          have HE : Hid ((ps.any fun p => truthX p.2) = true) := List.any_eq_true.2 ⟨ps[i], List.getElem_mem hi, by rw [HUS.out]; exact HQ.out⟩
          go_wp2_with fail
          refine HT.out.mono ?_
          rintro e w6 ⟨rfl, hb6⟩
          have HI6 : Hid (IterB w6 it L ((i + 1 : Nat) : Int)) := HI5.out.below hb6 HI5.out.lt
          have HL6 : Hid (ListB w6 L v 1) := HL5.out.below hb6 HL5.out.lt
          have HO6 := Lib.hid (HO5.out.below hb6)
          clear hb6
          go_wp2_with fail
          refine leaves_cons (f := 206) (args := #[.pointer (some ⟨it, 0, none⟩)]) (by simp) (by simp [go_sem]) ?_
          refine (done_d it L v _ _ _ HI6.out HL6.out).mono ?_
          rintro e u' w8 ⟨rfl, rfl, _, ho8⟩
          have HO8 := Lib.hid ho8
          clear ho8
          rw [HE.out]
          exact ⟨_, results_tmp2 rfl _ _ _, rfl, HO6.out.trans HO8.out⟩
        | byt t =>
          have HQ := Lib.hid hq
          obtain rfl := HT5.out
          have HT := Lib.hid (t_post (byt_truth t _ : Calls Tryz.prog _ _ w5 _) hq)
          clear hq
          have HE : Hid ((ps.any fun p => truthX p.2) = true) := List.any_eq_true.2 ⟨ps[i], List.getElem_mem hi, by rw [HUS.out]; exact HQ.out⟩
          go_wp2_with fail
          refine HT.out.mono ?_
          rintro e w6 ⟨rfl, hb6⟩
          have HI6 : Hid (IterB w6 it L ((i + 1 : Nat) : Int)) := HI5.out.below hb6 HI5.out.lt
          have HL6 : Hid (ListB w6 L v 1) := HL5.out.below hb6 HL5.out.lt
          have HO6 := Lib.hid (HO5.out.below hb6)
          clear hb6
          go_wp2_with fail
          refine leaves_cons (f := 206) (args := #[.pointer (some ⟨it, 0, none⟩)]) (by simp) (by simp [go_sem]) ?_
          refine (done_d it L v _ _ _ HI6.out HL6.out).mono ?_
          rintro e u' w8 ⟨rfl, rfl, _, ho8⟩
          have HO8 := Lib.hid ho8
          clear ho8
          rw [HE.out]
          exact ⟨_, results_tmp2 rfl _ _ _, rfl, HO6.out.trans HO8.out⟩
      | false =>
        have HF5 : Hid (∀ k (hk : k < ps.length), k < i + 1 → truthX (ps[k]'hk).2 = false) := fun k hk h => by
          by_cases e : k < i
          · exact HF.out k hk e
          · obtain rfl : k = i := by omega
            rw [HUS.out]; exact hq
        cases s with
        | none =>
          have HQ := Lib.hid hq
          obtain rfl := HT5.out
          have HT := Lib.hid (t_post (none_truth _ : Calls Tryz.prog _ _ w5 _) hq)
          clear hq
          go_wp2_with fail
          refine HT.out.mono ?_
          rintro e w6 ⟨rfl, hb6⟩
          have HR6 : Hid (AnyRel w B L it x 0 v ps (i + 1) w6) := ⟨_, HI5.out.below hb6 HI5.out.lt, HL5.out.below hb6 HL5.out.lt, HX5.out.below hb6 HX5.out.lt, HR5.out.below hb6, HO5.out.below hb6, HF5.out⟩
          clear hb6
          go_wp2_with fail
          go_roundg (ps.length - (i + 1))
          case measure => omega
          case rel => exact ⟨i + 1, by omega, HR6⟩
        | bool b =>
          have HQ := Lib.hid hq
          obtain rfl := HT5.out
          have HT := Lib.hid (t_post (bool_truth b _ : Calls Tryz.prog _ _ w5 _) hq)
          clear hq
          go_wp2_with fail
          refine HT.out.mono ?_
          rintro e w6 ⟨rfl, hb6⟩
          have HR6 : Hid (AnyRel w B L it x 0 v ps (i + 1) w6) := ⟨_, HI5.out.below hb6 HI5.out.lt, HL5.out.below hb6 HL5.out.lt, HX5.out.below hb6 HX5.out.lt, HR5.out.below hb6, HO5.out.below hb6, HF5.out⟩
          clear hb6
          go_wp2_with fail
          go_roundg (ps.length - (i + 1))
          case measure => omega
          case rel => exact ⟨i + 1, by omega, HR6⟩
        | int neg l =>
          have HQ := Lib.hid hq
          obtain ⟨y, rfl, hy⟩ := HT5.out
          have HY := Lib.hid hy
          obtain ⟨k, q, rfl⟩ := hy.shape
          clear hy
          have HT := Lib.hid (t_post2 (int_truth 0 _ _ w5 HY.out) hq)
          clear hq
          go_wp2_with fail
          refine HT.out.mono ?_
          rintro e w6 ⟨rfl, hb6⟩
          have HR6 : Hid (AnyRel w B L it x 0 v ps (i + 1) w6) := ⟨_, HI5.out.below hb6 HI5.out.lt, HL5.out.below hb6 HL5.out.lt, HX5.out.below hb6 HX5.out.lt, HR5.out.below hb6, HO5.out.below hb6, HF5.out⟩
          clear hb6
          go_wp2_with fail
          go_roundg (ps.length - (i + 1))
          case measure => omega
          case rel => exact ⟨i + 1, by omega, HR6⟩
        | float f =>
          have HQ := Lib.hid hq
          obtain rfl := HT5.out
          have HT := Lib.hid (t_post (float_truth f _ : Calls Tryz.prog _ _ w5 _) hq)
          clear hq
          go_wp2_with fail
          refine HT.out.mono ?_
          rintro e w6 ⟨rfl, hb6⟩
          have HR6 : Hid (AnyRel w B L it x 0 v ps (i + 1) w6) := ⟨_, HI5.out.below hb6 HI5.out.lt, HL5.out.below hb6 HL5.out.lt, HX5.out.below hb6 HX5.out.lt, HR5.out.below hb6, HO5.out.below hb6, HF5.out⟩
          clear hb6
          go_wp2_with fail
          go_roundg (ps.length - (i + 1))
          case measure => omega
          case rel => exact ⟨i + 1, by omega, HR6⟩
        | str t =>
          have HQ := Lib.hid hq
          obtain rfl := HT5.out
          have HT := Lib.hid (t_post (str_truth t _ : Calls Tryz.prog _ _ w5 _) hq)
          clear hq
          go_wp2_with fail
          refine HT.out.mono ?_
          rintro e w6 ⟨rfl, hb6⟩
          have HR6 : Hid (AnyRel w B L it x 0 v ps (i + 1) w6) := ⟨_, HI5.out.below hb6 HI5.out.lt, HL5.out.below hb6 HL5.out.lt, HX5.out.below hb6 HX5.out.lt, HR5.out.below hb6, HO5.out.below hb6, HF5.out⟩
          clear hb6
          go_wp2_with fail
          go_roundg (ps.length - (i + 1))
          case measure => omega
          case rel => exact ⟨i + 1, by omega, HR6⟩
        | byt t =>
          have HQ := Lib.hid hq
          obtain rfl := HT5.out
          have HT := Lib.hid (t_post (byt_truth t _ : Calls Tryz.prog _ _ w5 _) hq)
          clear hq
          go_wp2_with fail
          refine HT.out.mono ?_
          rintro e w6 ⟨rfl, hb6⟩
          have HR6 : Hid (AnyRel w B L it x 0 v ps (i + 1) w6) := ⟨_, HI5.out.below hb6 HI5.out.lt, HL5.out.below hb6 HL5.out.lt, HX5.out.below hb6 HX5.out.lt, HR5.out.below hb6, HO5.out.below hb6, HF5.out⟩
          clear hb6
          go_wp2_with fail
          go_roundg (ps.length - (i + 1))
          case measure => omega
          case rel => exact ⟨i + 1, by omega, HR6⟩
    · have hin : i = ps.length := by omega
      subst hin
      obtain ⟨a, c, hv⟩ := hR4.form
      have HNEXT := Lib.hid (next_no it L x ps.length c a 1 wr hI (by rw [← hv]; exact hL4))
      have HI := Lib.hid hI
      have HL4 := Lib.hid hL4
      have HO := Lib.hid hO
      have HE : Hid ((ps.any fun p => truthX p.2) = false) := by
        refine List.any_eq_false.2 fun p hp => ?_
        obtain ⟨k, hk, rfl⟩ := List.getElem_of_mem hp
        simpa using hF k hk hk
      clear hI hL4 hX hR4 hO hF hrel hv
      go_wp2_with fail
      refine HNEXT.out.mono ?_
      rintro e w5 ⟨rfl, hb5⟩
      have HI6 : Hid (IterB w5 it L (ps.length : Int)) := HI.out.below hb5 HI.out.lt
      have HL6 : Hid (ListB w5 L v 1) := HL4.out.below hb5 HL4.out.lt
      have HO6 := Lib.hid (HO.out.below hb5)
      clear hb5
      go_wp2_with fail
      refine leaves_cons (f := 206) (args := #[.pointer (some ⟨it, 0, none⟩)]) (by simp) (by simp [go_sem]) ?_
      refine (done_d it L v _ _ _ HI6.out HL6.out).mono ?_
      rintro e u' w8 ⟨rfl, rfl, _, ho8⟩
      have HO8 := Lib.hid ho8
      clear ho8
      rw [HE.out]
      exact ⟨_, results_tmp2 rfl _ _ _, rfl, HO6.out.trans HO8.out⟩
end Go.Proofs.YtmpfffcdpecadaaGreat
