/- The reference asked for a replace; the arguments put together. -/
import Derived.Test.YthoemgnfklhgjaaGreatDoorReplaced
import Derived.Deep.Upon
namespace Go.Proofs.YthoemgnfklhgjaaGreatDoor
open Go.RowKit
attribute [local go_sem ↓] Go.wp_at_zero Go.wp_at_succ
set_option maxRecDepth 100000 in
set_option maxHeartbeats 4000000 in
theorem method_r (s p q : ByteArray) (S cap : Nat) (c : Option Int) (w : World) (hs : s.size ≤ 60) (hp : p.size ≤ 60) (hq : q.size ≤ 60) (hc : CountOk c) (hA : RArgs w S p q c) :
    Calls Tryz.prog 12 #[.string s, .string ⟨#[114, 101, 112, 108, 97, 99, 101]⟩, .slice (some ⟨S, 0, none⟩) (cntN c) cap] w (RepdPost s p q c w) := by
  have HB0 := Lib.hid ((Below.refl w.heap.size w).alloc (Nat.le_refl _) (.cells #[.int .i64 0, .bool false, .slice none 0 0, .int .u64 0, .string ⟨#[]⟩, .slice none 0 0] 28))
  have HK0 := Lib.hid (Blk.new w 28 #[.int .i64 0, .bool false, .slice none 0 0, .int .u64 0, .string ⟨#[]⟩, .slice none 0 0])
  have HF := Lib.hid (replaced_any s p q S cap c _ hs hp hq hc (hA.below HB0.out))
  obtain ⟨N, hN⟩ : ∃ N, N = cntN c := ⟨_, rfl⟩
  rw [← hN] at HF ⊢
  obtain ⟨R, hR⟩ : ∃ R, R = repB s p q (cntOf c) := ⟨_, rfl⟩
  unfold RepdPost at HF ⊢
  rw [← hR] at HF ⊢
  clear hA hc hN hR
  go_enter Tryz.func12, Tryz.ntmps12
  go_wp2_with fail
  refine HF.out.mono ?_
  rintro e w1 ⟨rfl, hb1⟩
  have HB1 := Lib.hid (HB0.out.trans (hb1.mono HB0.out.size))
  have hk1 := HK0.out.below hb1 HK0.out.lt
  obtain ⟨c0, c1, c2, c3, c4, c5, f0, f1, f2, f3, f4, f5⟩ := blk6 hk1
  clear hb1 hk1
  unfold pStr
  go_wp2
  refine bodyPost_ret (v := .tuple #[pStr R, .bool true]) (by simp [results, Tryz.results12, go_sem, pStr, c0, c1, c2, c3, c4, c5]) rfl ⟨rfl, ?_⟩
  exact HB1.out.trans ((six_set w1 w.heap.size (.int .i64 4) (.bool false) (.slice none 0 0) (.int .u64 0) (.string R) (.slice none 0 0)).to_below HB1.out.size (fun k _ e => by omega))
set_option maxRecDepth 100000 in
set_option maxHeartbeats 4000000 in
theorem asked_r (s p q : ByteArray) (S cap : Nat) (c : Option Int) (w : World) (hs : s.size ≤ 60) (hp : p.size ≤ 60) (hq : q.size ≤ 60) (hc : CountOk c) (hA : RArgs w S p q c) :
    Calls Tryz.prog 7 #[.string s, .string ⟨#[114, 101, 112, 108, 97, 99, 101]⟩, .slice (some ⟨S, 0, none⟩) (cntN c) cap] w fun e w' => e = .returned (.tuple #[pStr (repB s p q (cntOf c)), .slice none 0 0, .bool true]) ∧ Below w.heap.size w w' := by
  have HB0 := Lib.hid ((Below.refl w.heap.size w).alloc (Nat.le_refl _) (.cells #[.int .i64 0, .bool false, .slice none 0 0, .int .u64 0, .string ⟨#[]⟩, .slice none 0 0] 28))
  have HK0 := Lib.hid (Blk.new w 28 #[.int .i64 0, .bool false, .slice none 0 0, .int .u64 0, .string ⟨#[]⟩, .slice none 0 0])
  have HF := Lib.hid (method_r s p q S cap c _ hs hp hq hc (hA.below HB0.out))
  obtain ⟨N, hN⟩ : ∃ N, N = cntN c := ⟨_, rfl⟩
  rw [← hN] at HF ⊢
  obtain ⟨R, hR⟩ : ∃ R, R = repB s p q (cntOf c) := ⟨_, rfl⟩
  unfold RepdPost at HF
  rw [← hR] at HF ⊢
  clear hA hc hN hR
  go_enter Tryz.func7, Tryz.ntmps7
  go_wp2_with fail
  refine HF.out.mono ?_
  rintro e w1 ⟨rfl, hb1⟩
  have HB1 := Lib.hid (HB0.out.trans (hb1.mono HB0.out.size))
  have hk1 := HK0.out.below hb1 HK0.out.lt
  obtain ⟨c0, c1, c2, c3, c4, c5, f0, f1, f2, f3, f4, f5⟩ := blk6 hk1
  have HKA := Lib.hid (HK0.out.below hb1 HK0.out.lt)
  clear hb1 hk1
  unfold pStr
  go_wp2_with fail
  obtain ⟨w2, hw2⟩ : ∃ w2, w2 = ((((((w1.setCell ⟨w.heap.size, 0, none⟩ (.int .i64 4)).setCell ⟨w.heap.size, 1, none⟩ (.bool false)).setCell ⟨w.heap.size, 2, none⟩ (.slice none 0 0)).setCell ⟨w.heap.size, 3, none⟩ (.int .u64 0)).setCell ⟨w.heap.size, 4, none⟩ (.string R)).setCell ⟨w.heap.size, 5, none⟩ (.slice none 0 0)) := ⟨_, rfl⟩
  rw [← hw2]
  have hk2 : Blk w2 w.heap.size 28 #[.int .i64 4, .bool false, .slice none 0 0, .int .u64 0, .string R, .slice none 0 0] := by rw [hw2]; exact ((((((HKA.out.put 0 (.int .i64 4)).put 1 (.bool false)).put 2 (.slice none 0 0)).put 3 (.int .u64 0)).put 4 (.string R)).put 5 (.slice none 0 0))
  have hO1 : Only (· = w.heap.size) w1 w2 := by rw [hw2]; exact six_set w1 w.heap.size (.int .i64 4) (.bool false) (.slice none 0 0) (.int .u64 0) (.string R) (.slice none 0 0)
  have HO1 := Lib.hid hO1
  clear hw2 hO1 c0 c1 c2 c3 c4 c5 f0 f1 f2 f3 f4 f5
  obtain ⟨c0, c1, c2, c3, c4, c5, f0, f1, f2, f3, f4, f5⟩ := blk6 hk2
  clear hk2
  refine wp_loop_rounds 1 ?_
  rw [rounds_succ]
  go_wp2
  have hO2 := HO1.out.trans (six_set w2 w.heap.size (.int .i64 4) (.bool false) (.slice none 0 0) (.int .u64 0) (.string R) (.slice none 0 0))
  refine bodyPost_ret (v := .tuple #[pStr R, .slice none 0 0, .bool true]) (by simp [results, Tryz.results7, go_sem, pStr, c0, c1, c2, c3, c4, c5]) rfl ⟨rfl, ?_⟩
  exact HB1.out.trans (hO2.to_below HB1.out.size (fun k _ e => by omega))
theorem Tryz.infoVal : (Tryz.prog.info? 28).map (fun i => (i.zero, i.size, i.bytes)) = some (some (.agg #[.int .i64 0, .bool false, .slice none 0 0, .int .u64 0, .string ⟨#[]⟩, .slice none 0 0]), 6, 88) := by kernel_rfl
section
variable {P : Program}
theorem wpList_append_nil {ops : Array Oper} {rest : List Oper} {o : Oper} {a : Act} {Q : Exit → Act → World → Prop} (w : World) (hgd : o.guard = none) (s x : Operand) (t : TypeId)
    (ho : o.op = .call { callee := .builtin .append, args := #[s, x], argTypes := #[t, t] }) (e : TypeId) (i : TypeInfo) (ht : P.underlying t = some (.slice e)) (hi : P.info? e = some i)
    (base : Option Addr) (sLen sCap : Nat) (hle : sLen ≤ sCap) (hs : a.eval s = .slice base sLen sCap) (hx : a.eval x = .slice none 0 0)
    (h : wpList P ops Q rest (a.put o.dst (.slice base sLen sCap)) w) : wpList P ops Q (o :: rest) a w :=
  wpList_plain hgd fun _ hK => by
    have hr := run_append_nothing (P := P) w t t o.type e i ht hi base sLen sCap hle (.slice none 0 0) (Src.ofNil _ ht 0)
    unfold Oper.wp execOp
    simp only [ho, resolve, invoke, builtin, Sem.run_bind, Sem.run_pure, Result.andThen_ok, List.map_toArray, List.map_cons, List.map_nil, hs, hx, hr]
    exact hK _ _ h
end
theorem own_row6 {w : World} {B n : Nat} {e : TypeId} {v : Value} {xs : List Value} (h : w.ownsRow B e 6 v (n + 1) xs) : ∃ g c, v = .slice (some ⟨g, 0, none⟩) (n + 1) c ∧ B ≤ g ∧ g < w.heap.size ∧ ∀ k u, xs[k]? = some u → w.cell? ⟨g, k, none⟩ = some u := by
  rcases h.2 with ⟨_, h0⟩ | ⟨g, cap, cur, rfl, hb, hh, _⟩
  · exact absurd h0 (by omega)
  · refine ⟨g, cap, rfl, hb, (Array.getElem?_eq_some_iff.1 hh).1, fun k u hk => ?_⟩
    have := h.cells (g := g) rfl k u hk
    rw [Addr.add_lit] at this
    simpa using this
set_option maxHeartbeats 1000000 in
theorem wpList_app_vals {ops : Array Oper} {rest : List Oper} {o : Oper} {a : Act} {Q : Exit → Act → World → Prop} (w1 w : World) (p q : ByteArray) (c : Option Int) (G : Nat) (v : Value) (hgd : o.guard = none) (s x : Operand)
    (ho : o.op = .call { callee := .builtin .append, args := #[s, x], argTypes := #[24, 24] })
    (hs : a.eval s = .slice (some ⟨G, 0, none⟩) 2 2) (hx : a.eval x = v) (hv : CntV w1 0 v c) (hb : Below w1.heap.size w1 w) (hG1 : w1.heap.size ≤ G)
    (hG : Blk w G 28 #[.int .i64 4, .bool false, .slice none 0 0, .int .u64 0, .string p, .slice none 0 0, .int .i64 4, .bool false, .slice none 0 0, .int .u64 0, .string q, .slice none 0 0])
    (h : ∀ G' cap w', RArgs w' G' p q c → Below w1.heap.size w1 w' → wpList Tryz.prog ops Q rest (a.put o.dst (.slice (some ⟨G', 0, none⟩) (cntN c) cap)) w') : wpList Tryz.prog ops Q (o :: rest) a w := by
  obtain ⟨i0, hi0, hz0, hz1, hz2⟩ := info_parts Tryz.infoVal
  rcases hv with ⟨rfl, rfl⟩ | ⟨n, C, cp, rfl, rfl, hva⟩
  · refine wpList_append_nil w hgd s x _ ho 28 i0 Tryz.underlying24 hi0 (some ⟨G, 0, none⟩) 2 2 (Nat.le_refl _) hs hx ?_
    exact h G 2 w ⟨hG.lt, ⟨(hG.cell 0).trans rfl, (hG.cell 4).trans rfl, (hG.cell 6).trans rfl, (hG.cell 10).trans rfl⟩, fun n hn => by simp at hn⟩ hb
  · have hvw := hva.below hb
    obtain ⟨neg, aa, nn, cc, tx, hp, c0, c1, c2, c3, c4, c5⟩ := hvw.2 0 (by simp)
    obtain ⟨neg', aa', nn', cc', tx', hp1, d0, d1, d2, d3, d4, d5⟩ := hva.2 0 (by simp)
    have e0 := hb.cell (p := ⟨C, 0, none⟩) hva.1
    have e1 := hb.cell (p := ⟨C, 1, none⟩) hva.1
    have e2 := hb.cell (p := ⟨C, 2, none⟩) hva.1
    have e4 := hb.cell (p := ⟨C, 4, none⟩) hva.1
    simp only [Nat.zero_mul, Nat.zero_add, List.getElem_cons_zero] at c0 c1 c2 c3 c4 c5 d0 d1 d2 d3 d4 d5 hp hp1
    have hown : w.ownsRow w1.heap.size 28 6 (.slice (some ⟨G, 0, none⟩) 2 2) 2 [.int .i64 4, .bool false, .slice none 0 0, .int .u64 0, .string p, .slice none 0 0, .int .i64 4, .bool false, .slice none 0 0, .int .u64 0, .string q, .slice none 0 0] :=
      ⟨rfl, .inr ⟨G, 2, _, rfl, hG1, hG, Nat.le_refl _, by unfold maxLen; omega, rfl, rfl⟩⟩
    refine wpList_append_own w hgd s x _ ho w1.heap.size 28 i0 _ 6 88 Tryz.underlying24 hi0 hz0 hz1 hz2 rfl (by decide) _ 2 _ hs hown ⟨C, 0, none⟩ 1 cp [.int .i64 2, .bool neg, .slice aa nn cc, .int .u64 0, .string tx, .slice none 0 0] hx rfl ?_ ?_ (by unfold maxLen; omega) (by omega) hb.size ?_
    · intro j u hj
      rw [Addr.add_lit]
      match j, hj with
      | 0, hj => simp at hj; subst hj; exact c0
      | 1, hj => simp at hj; subst hj; exact c1
      | 2, hj => simp at hj; subst hj; exact c2
      | 3, hj => simp at hj; subst hj; exact c3
      | 4, hj => simp at hj; subst hj; exact c4
      | 5, hj => simp at hj; subst hj; exact c5
    · intro u hu; simp at hu; rcases hu with rfl | rfl | rfl | rfl | rfl | rfl <;> rfl
    · intro v' w' hown' hgr _
      have hb2 := (Below.refl w1.heap.size w).grown hgr hb.size (fun k hk => by simp [Value.ownBlock] at hk; omega)
      have hb3 := hb.trans hb2
      obtain ⟨g', c', rfl, _, hgl, hcell⟩ := own_row6 hown'
      refine h g' c' w' ⟨hgl, ⟨hcell 0 _ rfl, hcell 4 _ rfl, hcell 6 _ rfl, hcell 10 _ rfl⟩, fun m hm => ?_⟩ hb3
      injection hm with hm
      subst hm
      have q1 : neg = neg' := by have := c1.symm.trans (e1.trans d1); simpa using this
      have q2 : aa = aa' ∧ nn = nn' ∧ cc = cc' := by have := c2.symm.trans (e2.trans d2); simpa using this
      have q4 : tx = tx' := by have := c4.symm.trans (e4.trans d4); simpa using this
      obtain ⟨rfl, rfl, rfl⟩ := q2
      subst q1 q4
      exact ⟨hgl, neg, aa, nn, cc, tx, hp1.below hb3, hcell 12 _ rfl, hcell 13 _ rfl, hcell 14 _ rfl, hcell 15 _ rfl, hcell 16 _ rfl, hcell 17 _ rfl⟩
end Go.Proofs.YthoemgnfklhgjaaGreatDoor
