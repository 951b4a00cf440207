/- A copy of an integer; the language's integers, made of math/big's. -/
import Derived.Test.YteibkaonofkcbaaGreatTupJoinG
set_option linter.unusedSimpArgs false
set_option linter.unusedVariables false
namespace Go.Proofs.YteibkaonofkcbaaGreat
open Go.RowKit
theorem run_neq_ptr_other {P : Program} (w : World) {tp te : TypeId} {j : TypeInfo} {a b : Addr} {ca cb : Array Value} {ta tb : TypeId} (hp : P.underlying tp = some (.pointer te)) (hte : P.info? te = some j) (hsz : j.size ≠ 0)
    (hne : a ≠ b) (ha : w.heap[a.block]? = some (.cells ca ta (0, 0))) (hb : w.heap[b.block]? = some (.cells cb tb (0, 0))) :
    (binOp .neq tp (.pointer (some a)) (.pointer (some b))).run P w = .ok (.bool true) w := by
  have h : ∀ d : Nat, (Op.equalIn (d + 1) tp (.pointer (some a)) (.pointer (some b))).run P w = .ok false w := fun d => by
    simp [Op.equalIn, run_underlying hp, sizeOf, typeInfo, hte, hsz, run_sameAddr_other w hne ha hb]
  simp only [binOp]
  simp [Op.equal, Op.maxDepth, h 9999]
def IntSetPost (bz : Nat) (neg : Bool) (ws : List Nat) (w : World) (e : Ending) (w' : World) : Prop := e = .returned (.pointer (some ⟨bz, 0, none⟩)) ∧ BigI w' w.heap.size bz neg ws ∧ Only (· = bz) w w'
theorem Tryz.infoBig : (Tryz.prog.info? 136).map (·.size) = some 2 := by kernel_rfl
set_option maxRecDepth 20000 in
set_option maxHeartbeats 2000000 in
theorem int_set (B bz bx : Nat) (neg : Bool) (ws : List Nat) (w : World) (hz : Blk w bz 136 #[.bool false, .slice none 0 0]) (hx : BigI w B bx neg ws) (hne : bz ≠ bx) :
    Calls Tryz.prog 80 #[.pointer (some ⟨bz, 0, none⟩), .pointer (some ⟨bx, 0, none⟩)] w (IntSetPost bz neg ws w) := by
  obtain ⟨v, hk, how, htop, hneg, hlen⟩ := hx
  obtain ⟨a, c, hv⟩ := how.shape
  obtain ⟨r, hr⟩ : ∃ r, r = ws.length := ⟨_, rfl⟩
  rw [← hr] at hv
  subst hv
  obtain ⟨j, hj, hj2⟩ := Option.map_eq_some_iff.1 Tryz.infoBig
  have hpne := run_neq_ptr_other (P := Tryz.prog) w (tp := 111) (te := 136) (a := ⟨bz, 0, none⟩) (b := ⟨bx, 0, none⟩) Tryz.underlying111 hj (by rw [hj2]; decide) (by intro e; injection e with e1; exact hne e1) hz hk
  obtain ⟨c0, c1, f0, f1⟩ := blk2 hz
  obtain ⟨d0, d1, _, _⟩ := blk2 hk
  have HZ := Lib.hid hz
  have HK := Lib.hid hk
  have HOW := Lib.hid how
  have HJ := Lib.hid hj
  have hbz := hz.lt
  clear hz hk how hr hj hj2
  go_enter Tryz.func80, Tryz.ntmps80
  go_wp2_with fail
  clear hpne
  go_region_with ((go_at_call 93; refine (nat_set B _ ws _ (HOW.out.below (below_dn (Below.refl _ _) 1)) hlen).mono ?_; rintro e w1 ⟨v1, rfl, how1, hb1⟩; obtain ⟨a1, cc1, hv1⟩ := how1.shape; rw [hv1] at how1 ⊢; have HB1 := Lib.hid (show Below w.heap.size w w1 from (below_dn (Below.refl _ w) 1).trans hb1); have H1 := Lib.hid how1; have KZ := Lib.hid (HZ.out.below HB1.out HZ.out.lt); have KX := Lib.hid (HK.out.below HB1.out HK.out.lt); obtain ⟨p0, p1, q0, q1⟩ := blk2 KZ.out; obtain ⟨x0, x1, _, _⟩ := blk2 KX.out; clear how1 hb1 hv1))
  all_goals
    go_wp2
    go_ret
    refine ⟨rfl, ⟨.slice a1 ws.length cc1, ?_, ?_, htop, hneg, hlen⟩, ?_⟩
    · have h := (KZ.out.put 1 (.slice a1 ws.length cc1)).put 0 (.bool neg)
      simpa using h
    · exact (H1.out.base (C := w.heap.size) (by simp)).only (((Only.refl (fun x => x = bz) w1).setCell (p := ⟨bz, 1, none⟩) (.inl (rfl : bz = bz)) _).setCell (p := ⟨bz, 0, none⟩) (.inl (rfl : bz = bz)) _) (fun k hk e => by omega)
    · exact ((Only.of_below (S := fun x => x = bz) HB1.out).setCell (p := ⟨bz, 1, none⟩) (.inl (rfl : bz = bz)) _).setCell (p := ⟨bz, 0, none⟩) (.inl (rfl : bz = bz)) _
/-- An int of the language. -/
def SI (w : World) (B : Nat) (v : Value) (n : Int) : Prop :=
  (smallB n = true ∧ v = .agg #[.int .i64 n, .pointer none]) ∨ (smallB n = false ∧ ∃ b neg ws, v = .agg #[.int .i64 0, .pointer (some ⟨b, 0, none⟩)] ∧ B ≤ b ∧ BigI w B b neg ws ∧ valI neg ws = n)
theorem SI.below {w w' : World} {B : Nat} {v : Value} {n : Int} (h : SI w B v n) (hb : Below w.heap.size w w') : SI w' B v n := by
  rcases h with h | ⟨h1, b, neg, ws, hv, h2, h3, h4⟩
  · exact .inl h
  · exact .inr ⟨h1, b, neg, ws, hv, h2, h3.below hb, h4⟩
theorem SI.base {w : World} {B C : Nat} {v : Value} {n : Int} (h : SI w B v n) (hC : C ≤ B) : SI w C v n := by
  rcases h with h | ⟨h1, b, neg, ws, hv, h2, h3, h4⟩
  · exact .inl h
  · exact .inr ⟨h1, b, neg, ws, hv, Nat.le_trans hC h2, h3.base hC, h4⟩
theorem BigI.only {w w' : World} {B b : Nat} {S : Nat → Prop} {neg : Bool} {ws : List Nat} (h : BigI w B b neg ws) (k : Only S w w') (hb : ¬ S b) (hs : ∀ g, B ≤ g → ¬ S g) : BigI w' B b neg ws := by
  obtain ⟨v, h1, h2, h3⟩ := h
  exact ⟨v, h1.only k hb, h2.only k hs, h3⟩
theorem SI.only {w w' : World} {B : Nat} {S : Nat → Prop} {v : Value} {n : Int} (h : SI w B v n) (k : Only S w w') (hs : ∀ g, B ≤ g → ¬ S g) : SI w' B v n := by
  rcases h with h | ⟨h1, b, neg, ws, hv, h2, h3, h4⟩
  · exact .inl h
  · exact .inr ⟨h1, b, neg, ws, hv, h2, h3.only k (hs b h2) hs, h4⟩
def SIPost (n : Int) (w : World) (e : Ending) (w' : World) : Prop := ∃ v, e = .returned v ∧ SI w' w.heap.size v n ∧ Below w.heap.size w w'
theorem make_small (n : Int) (w : World) : Calls Tryz.prog 82 #[.int .i64 n] w fun e w' => e = .returned (.agg #[.int .i64 n, .pointer none]) ∧ Below w.heap.size w w' := by
  go_enter Tryz.func82, Tryz.ntmps82
  go_wp2
  exact bodyPost_ret (v := .agg #[.int .i64 n, .pointer none]) (by simp [results, Tryz.results82, go_sem]) rfl ⟨rfl, (Below.refl _ _).alloc (Nat.le_refl _) _⟩
theorem make_big (b : Nat) (w : World) : Calls Tryz.prog 84 #[.pointer (some ⟨b, 0, none⟩)] w fun e w' => e = .returned (.agg #[.int .i64 0, .pointer (some ⟨b, 0, none⟩)]) ∧ Below w.heap.size w w' := by
  go_enter Tryz.func84, Tryz.ntmps84
  go_wp2
  exact bodyPost_ret (v := .agg #[.int .i64 0, .pointer (some ⟨b, 0, none⟩)]) (by simp [results, Tryz.results84, go_sem]) rfl ⟨rfl, (Below.refl _ _).alloc (Nat.le_refl _) _⟩
set_option maxRecDepth 20000 in
set_option maxHeartbeats 2000000 in
theorem make_bigint (B b : Nat) (neg : Bool) (ws : List Nat) (w : World) (h : BigI w B b neg ws) :
    Calls Tryz.prog 70 #[.pointer (some ⟨b, 0, none⟩)] w (SIPost (valI neg ws) w) := by
  have hblt := h.blk
  have hk := Lib.hid (Blk.new w 115 #[.int .i64 0, .pointer none])
  have H := Lib.hid (h.below ((Below.refl _ w).alloc (Nat.le_refl _) (.cells #[.int .i64 0, .pointer none] 115)))
  clear h
  cases hs : smallB (valI neg ws) with
  | true =>
    have HS := Lib.hid hs
    have hlt : valW ws < 9223372036854775808 := by
      have h1 := of_decide_eq_true hs
      unfold valI at h1
      cases neg <;> simp at h1 <;> omega
    have HLT := Lib.hid hlt
    clear hs hlt
    obtain ⟨n, hn⟩ : ∃ n, n = valI neg ws := ⟨_, rfl⟩
    go_enter Tryz.func70, Tryz.ntmps70
    rw [← hn] at HS ⊢
    have HN := Lib.hid hn
    clear hn
    go_wp2_with fail
    refine (is_small B b neg ws _ H.out).mono ?_
    unfold BoolPost
    rw [← HN.out, HS.out]
    rintro e w1 ⟨rfl, rfl⟩
    go_wp2_with fail
    refine (int_int64 B b neg ws _ H.out HLT.out).mono ?_
    unfold IntPost
    rw [← HN.out]
    rintro e w1 ⟨rfl, rfl⟩
    go_wp2_with fail
    refine (make_small n _).mono ?_
    rintro e w2 ⟨rfl, hb2⟩
    obtain ⟨c0, c1, f0, f1⟩ := blk2 (hk.out.below hb2 (by simp))
    have hbw := Lib.hid (show Below w.heap.size w w2 from ((Below.refl _ w).alloc (Nat.le_refl _) _).trans (hb2.mono (by simp)))
    clear hb2
    go_wp2
    exact bodyPost_ret (v := .agg #[.int .i64 n, .pointer none]) (by simp [results, Tryz.results70, go_sem, c0, c1]) rfl ⟨_, rfl, .inl ⟨HS.out, rfl⟩, (hbw.out.setCell (p := ⟨w.heap.size, 0, none⟩) (Nat.le_refl _) _).setCell (p := ⟨w.heap.size, 1, none⟩) (Nat.le_refl _) _⟩
  | false =>
    have HS := Lib.hid hs
    clear hs
    obtain ⟨n, hn⟩ : ∃ n, n = valI neg ws := ⟨_, rfl⟩
    go_enter Tryz.func70, Tryz.ntmps70
    rw [← hn] at HS ⊢
    have HN := Lib.hid hn
    clear hn
    go_wp2_with fail
    refine (is_small B b neg ws _ H.out).mono ?_
    unfold BoolPost
    rw [← HN.out, HS.out]
    rintro e w1 ⟨rfl, rfl⟩
    go_wp2_with fail
    refine (int_set B (w.heap.size + 1) b neg ws _ (Blk.new_at _ _ _ (by simp)) (H.out.below ((Below.refl _ _).alloc (Nat.le_refl _) _)) (by omega)).mono ?_
    rintro e w2 ⟨rfl, hbi, hO⟩
    have hbi2 := hbi.base (C := w.heap.size + 1) (by simp)
    have HBI := Lib.hid hbi2
    have hbw := Lib.hid (show Below (w.heap.size + 1) (w.alloc (.cells #[.int .i64 0, .pointer none] 115)) w2 from ((Below.refl (w.heap.size + 1) _).alloc (by simp) _).trans (hO.to_below (by simp) (fun k _ e => by omega)))
    clear hbi hbi2 hO
    go_wp2_with fail
    refine (make_big (w.heap.size + 1) _).mono ?_
    rintro e w3 ⟨rfl, hb3⟩
    have hbw3 := hbw.out.trans (hb3.mono (by have := hbw.out.size; simp at this; omega))
    obtain ⟨c0, c1, f0, f1⟩ := blk2 (hk.out.below hbw3 (by omega))
    have HBI3 := Lib.hid (HBI.out.below hb3)
    have HB3 := Lib.hid hbw3
    clear hb3 hbw3
    go_wp2
    refine bodyPost_ret (v := .agg #[.int .i64 0, .pointer (some ⟨w.heap.size + 1, 0, none⟩)]) (by simp [results, Tryz.results70, go_sem, c0, c1]) rfl ⟨_, rfl, .inr ⟨HS.out, w.heap.size + 1, neg, ws, rfl, by omega, ?_, HN.out.symm⟩, ((((Below.refl _ w).alloc (Nat.le_refl _) _).trans (HB3.out.mono (by omega))).setCell (p := ⟨w.heap.size, 0, none⟩) (Nat.le_refl _) _).setCell (p := ⟨w.heap.size, 1, none⟩) (Nat.le_refl _) _⟩
    exact (HBI3.out.only (two_set w3 w.heap.size (.int .i64 0) (.pointer (some ⟨w.heap.size + 1, 0, none⟩))) (by omega) (fun k hk e => by omega)).base (by omega)
end Go.Proofs.YteibkaonofkcbaaGreat
