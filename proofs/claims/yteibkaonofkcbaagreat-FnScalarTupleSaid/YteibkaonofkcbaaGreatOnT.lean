/- A step over a tuple. -/
import Derived.Test.YteibkaonofkcbaaGreatIterN
namespace Go.Proofs.YteibkaonofkcbaaGreat
open Go.RowKit
set_option linter.unusedSimpArgs false
set_option linter.unusedVariables false
attribute [local go_sem ↓] Go.wp_at_zero Go.wp_at_succ
@[go_sem] theorem Tryz.taTuple (v : Value) (w : World) : (Instr.typeAssert (.iface 59 v) 87 59 true).run Tryz.prog w = .ok (.tuple #[v, .bool true]) w := by kernel_rfl
theorem quiet_same {P : Program} {f : FuncId} {args : Array Value} {w : World} {n : Nat} {v : Value} (h : Calls P f args (w.drewN n) fun e w' => e = .returned v ∧ w.drewN n = w') : Calls P f args (w.drewN n) fun e w'' => e = .returned v ∧ ∃ m, w'' = w.drewN m :=
  Calls.quiet_of_same (h.mono fun _ _ ⟨he, hm⟩ => ⟨he, hm.symm⟩)
/-- The world has grown: of what was there, only iterators have been written. -/
def Grew (B : Nat) (w w' : World) : Prop := ∃ S : Nat → Prop, Only S w w' ∧ Typ S w [63, 101, 126] ∧ ∀ q, S q → B ≤ q
theorem Grew.of_below {B : Nat} {w w' : World} (h : Below w.heap.size w w') : Grew B w w' := ⟨fun _ => False, Only.of_below h, fun g h _ => h.elim, fun q h => h.elim⟩
def OnP (B P : Nat) (ts : List (Value × Sx)) (at2 : List (Option Nat)) (a : AA) (w : World) (e : Ending) (w' : World) : Prop :=
  ∃ (is : Bool) (nn k2 : Int) (neg : Bool) (aa : Option Addr) (mm cc : Nat) (b : Int) (tx : ByteArray) (ka : Option Addr) (kn kc : Nat) (pv2 : Value) (bs2 : List Nat), e = .returned (.agg #[.bool true, .bool is, .int .i64 nn, .int .i64 k2, .bool neg, .slice aa mm cc, .int .u64 b, .string tx, .slice ka kn kc, .slice none 0 0]) ∧ RAns 7 w' [.bool true, .bool is, .int .i64 nn, .int .i64 k2, .bool neg, .slice aa mm cc, .int .u64 b, .string tx, .slice ka kn kc, .slice none 0 0] a ∧ PS w' B P pv2 bs2 at2 ts ∧ Grew B w w'
set_option maxRecDepth 100000 in
set_option maxHeartbeats 8000000 in
theorem on_len (B P n tc : Nat) (ta : Option Addr) (pv : Value) (bs : List Nat) (at' : List (Option Nat)) (ts : List (Value × Sx)) (si sj sm : Int) (r0 r1 r2 r3 r4 r5 r6 r7 r8 r9 r10 r11 r12 : Value) (w : World) (h : PS w B P pv bs at' ts) : Calls Tryz.prog 21 #[.slice ta n tc, .pointer (some ⟨P, 0, none⟩), .agg #[.int .i64 4, .int .i64 si, .int .i64 sj, .int .i64 sm, r0, r1, r2, r3, r4, r5, r6, r7, r8, r9, r10, r11, r12]] w (OnP B P ts at' ⟨false, (n : Int), .one .none⟩ w) := by
  have HPS := Lib.hid h
  clear h
  go_enter Tryz.func21, Tryz.ntmps21
  go_wp2_with (go_at_call 43; refine (tup_len ta n tc _).mono ?_; rintro e w' ⟨rfl, rfl⟩)
  exact bodyPost_ret (v := .agg #[.bool true, .bool false, .int .i64 (n : Int), .int .i64 0, .bool false, .slice none 0 0, .int .u64 0, .string ⟨#[]⟩, .slice none 0 0, .slice none 0 0]) (by simp [results, Tryz.results21, go_sem]) rfl ⟨false, (n : Int), 0, false, none, 0, 0, 0, ⟨#[]⟩, none, 0, 0, pv, bs, rfl, rans_zero _ _ _ _, HPS.out.below (((Below.refl w.heap.size w).alloc (Nat.le_refl _) _).alloc (by simp) _), Grew.of_below (((Below.refl w.heap.size w).alloc (Nat.le_refl _) _).alloc (by simp) _)⟩
set_option maxRecDepth 100000 in
set_option maxHeartbeats 8000000 in
theorem on_truth (B P n tc : Nat) (ta : Option Addr) (pv : Value) (bs : List Nat) (at' : List (Option Nat)) (ts : List (Value × Sx)) (si sj sm : Int) (r0 r1 r2 r3 r4 r5 r6 r7 r8 r9 r10 r11 r12 : Value) (w : World) (h : PS w B P pv bs at' ts) : Calls Tryz.prog 21 #[.slice ta n tc, .pointer (some ⟨P, 0, none⟩), .agg #[.int .i64 11, .int .i64 si, .int .i64 sj, .int .i64 sm, r0, r1, r2, r3, r4, r5, r6, r7, r8, r9, r10, r11, r12]] w (OnP B P ts at' ⟨decide (0 < n), 0, .one .none⟩ w) := by
  have HPS := Lib.hid h
  clear h
  obtain ⟨q, hq⟩ : ∃ q, q = decide (0 < n) := ⟨_, rfl⟩
  have HT := Lib.hid (fun W => tup_truth ta n tc W)
  rw [← hq] at HT ⊢
  clear hq
  go_enter Tryz.func21, Tryz.ntmps21
  go_wp2_with (go_at_call 49; refine (HT.out _).mono ?_; rintro e w' ⟨rfl, rfl⟩)
  exact bodyPost_ret (v := .agg #[.bool true, .bool q, .int .i64 0, .int .i64 0, .bool false, .slice none 0 0, .int .u64 0, .string ⟨#[]⟩, .slice none 0 0, .slice none 0 0]) (by simp [results, Tryz.results21, go_sem]) rfl ⟨q, 0, 0, false, none, 0, 0, 0, ⟨#[]⟩, none, 0, 0, pv, bs, rfl, rans_zero _ _ _ _, HPS.out.below (((Below.refl w.heap.size w).alloc (Nat.le_refl _) _).alloc (by simp) _), Grew.of_below (((Below.refl w.heap.size w).alloc (Nat.le_refl _) _).alloc (by simp) _)⟩
set_option maxRecDepth 100000 in
set_option maxHeartbeats 8000000 in
theorem on_open (B P n tc : Nat) (ta : Option Addr) (pv : Value) (bs : List Nat) (at' : List (Option Nat)) (ts : List (Value × Sx)) (si sj sm : Int) (r0 r1 r2 r3 r4 r5 r6 r7 r8 r9 r10 r11 r12 : Value) (w : World) (h : PS w B P pv bs at' ts) (hl : at'.length ≤ 1000) (hB : B ≤ w.heap.size) (hP : B ≤ P) (hseg : SegV w ta n tc ts) : Calls Tryz.prog 21 #[.slice ta n tc, .pointer (some ⟨P, 0, none⟩), .agg #[.int .i64 5, .int .i64 si, .int .i64 sj, .int .i64 sm, r0, r1, r2, r3, r4, r5, r6, r7, r8, r9, r10, r11, r12]] w (OnP B P ts (at' ++ [some 0]) ⟨false, (at'.length : Int), .one .none⟩ w) := by
  obtain ⟨W0, hW0⟩ : ∃ W0, W0 = ((w.alloc (.cells #[.int .i64 5, .int .i64 si, .int .i64 sj, .int .i64 sm, r0, r1, r2, r3, r4, r5, r6, r7, r8, r9, r10, r11, r12] 35)).alloc (.cells #[.bool false, .bool false, .int .i64 0, .int .i64 0, .bool false, .slice none 0 0, .int .u64 0, .string ⟨#[]⟩, .slice none 0 0, .slice none 0 0] 37)) := ⟨_, rfl⟩
  have hb0 : Below w.heap.size w W0 := by rw [hW0]; exact ((Below.refl w.heap.size w).alloc (Nat.le_refl _) _).alloc (by simp) _
  have HK5 : Hid (Blk W0 w.heap.size 35 #[.int .i64 5, .int .i64 si, .int .i64 sj, .int .i64 sm, r0, r1, r2, r3, r4, r5, r6, r7, r8, r9, r10, r11, r12]) := by rw [hW0]; exact (Blk.new w _ _).alloc _
  have HK6 : Hid (Blk W0 (w.heap.size + 1) 37 #[.bool false, .bool false, .int .i64 0, .int .i64 0, .bool false, .slice none 0 0, .int .u64 0, .string ⟨#[]⟩, .slice none 0 0, .slice none 0 0]) := by rw [hW0]; exact Blk.new_at _ _ _ (by simp)
  have HZ0 : Hid (W0.heap.size = w.heap.size + 2) := by rw [hW0]; simp [Hid]
  have HPS0 := Lib.hid (h.below hb0)
  have HB0 := Lib.hid hb0
  obtain ⟨m, hm⟩ : ∃ m, m = at'.length := ⟨_, rfl⟩
  obtain ⟨W1, hW1⟩ : ∃ W1, W1 = W0.alloc (.cells #[.slice ta n tc] 126) := ⟨_, rfl⟩
  have hb1 : Below W0.heap.size W0 W1 := by rw [hW1]; exact (Below.refl _ W0).alloc (Nat.le_refl _) _
  have hbk : Blk W1 W0.heap.size 126 #[.slice ta n tc] := by rw [hW1]; exact Blk.new _ _ _
  have HPS1 := Lib.hid (HPS0.out.below hb1)
  have HK61 := Lib.hid (HK6.out.below hb1 HK6.out.lt)
  have HB1 := Lib.hid (hb0.trans (hb1.mono hb0.size))
  have HIT := Lib.hid (tup_iter ta n tc W0)
  have HOP := Lib.hid (it_open B P W0.heap.size n tc ta pv bs at' ts W1 HPS1.out hl (Nat.le_trans hB (Nat.le_trans hb0.size hb1.size)) hbk ((hseg.below hb0).below hb1) (fun hmem => Nat.lt_irrefl _ (HPS0.out.hlt _ hmem).1) (Nat.le_trans hB hb0.size))
  rw [← hW1] at HIT
  have HBP := Lib.hid hP
  have HPR : Hid (∀ q, pv.ownBlock = some q → B ≤ q) := fun q hq => (h.hrow.lt q hq).1
  have HPW := Lib.hid (And.intro h.hP.lt h.hrow)
  have HPQ := Lib.hid h.hP
  have hne : ¬ P = w.heap.size + 1 := by have := h.hP.lt; omega
  have hnp : ∀ q, pv.ownBlock = some q → ¬ q = w.heap.size + 1 := fun q hq e => by have := (h.hrow.lt q hq).2; omega
  have HNE := Lib.hid (And.intro hne hnp)
  rw [← hm]
  have HM := Lib.hid hm
  clear h hl hB hP hseg hb0 hb1 hbk hW1 hm hne hnp
  go_enter Tryz.func21, Tryz.ntmps21
  go_upto_region 18 with fail
  rw [← hW0]
  clear hW0
  go_wp2_with fail
  refine HIT.out.mono ?_
  rintro e w1 ⟨rfl, rfl⟩
  go_wp2_with fail
  refine HOP.out.mono ?_
  rintro e w2 ⟨pv', rfl, hps, hO⟩
  rw [← HM.out]
  have hk6 := HK61.out.only hO (fun e => by rcases e with e | e; exact HNE.out.1 e.symm; exact HNE.out.2 _ e rfl)
  have HK62 := Lib.hid hk6
  have HPS2 := Lib.hid hps
  have HO2 := Lib.hid hO
  obtain ⟨p0, p1, p2, p3, p4, p5, p6, p7, p8, p9, q0, q1, q2, q3, q4, q5, q6, q7, q8, q9⟩ := blk_ten hk6
  clear hps hO hk6
  go_wp2
  refine bodyPost_ret (v := .agg #[.bool true, .bool false, .int .i64 (m : Int), .int .i64 0, .bool false, .slice none 0 0, .int .u64 0, .string ⟨#[]⟩, .slice none 0 0, .slice none 0 0]) (by simp [results, Tryz.results21, go_sem, p0, p1, p2, p3, p4, p5, p6, p7, p8, p9]) rfl ⟨false, (m : Int), 0, false, none, 0, 0, 0, ⟨#[]⟩, none, 0, 0, pv', bs ++ [W0.heap.size], rfl, rans_zero _ _ _ _, ?_, ?_⟩
  · exact HPS2.out.typ (typ_one HK62.out) (ten_keep (g := w.heap.size + 1) (d0 := .bool true) (d1 := .bool false) (d2 := .int .i64 (m : Int)) (d3 := .int .i64 0) (d4 := .bool false) (d5 := .slice none 0 0) (d6 := .int .u64 0) (d7 := .string ⟨#[]⟩) (d8 := .slice none 0 0) (d9 := .slice none 0 0) (Only.refl (· = w.heap.size + 1) _) (.inl rfl)) (by decide) (by decide) (by decide) (by decide) (by decide) (by decide)
  · refine ⟨fun q => q = P ∨ pv.ownBlock = some q, ten_keep ((Only.of_below HB1.out).trans HO2.out) (.inr (Nat.le_succ _)), fun q hq _ => ?_, fun q hq => ?_⟩
    · rcases hq with rfl | hq
      · obtain ⟨_, hrow⟩ := HPW.out
        exact ⟨_, _, HPQ.out, by simp⟩
      · obtain ⟨cs0, hb0⟩ := Blk.of_own (g := q) (n := 0) (c := 0) HPW.out.2 hq
        exact ⟨_, cs0, hb0, by simp⟩
    · rcases hq with rfl | hq
      · exact HBP.out
      · exact HPR.out q hq
theorem own_typed {B P : Nat} {pv : Value} {bs : List Nat} {at' : List (Option Nat)} {ts : List (Value × Sx)} {w : World} (h : PS w B P pv bs at' ts) : (∀ (i c : Nat), at'[i]? = some (some c) → Typ (fun q => pv.ownBlock = some q ∨ bs[i]? = some q) w [63, 101, 126]) ∧ ∀ (i q : Nat), (pv.ownBlock = some q ∨ bs[i]? = some q) → B ≤ q := by
  refine ⟨fun i c hi q hq _ => ?_, fun i q hq => ?_⟩
  · rcases hq with hq | hq
    · obtain ⟨cs0, hb0⟩ := Blk.of_own (g := q) (n := 0) (c := 0) h.hrow hq
      exact ⟨_, cs0, hb0, by simp⟩
    · obtain ⟨b, q', m, d, e1, e2, _⟩ := h.hit i c hi
      rw [hq] at e1
      injection e1 with e1
      subst e1
      exact ⟨_, _, e2, by simp⟩
  · rcases hq with hq | hq
    · exact (h.hrow.lt q hq).1
    · exact (h.hlt q (List.mem_of_getElem? hq)).2
set_option maxRecDepth 100000 in
set_option maxHeartbeats 8000000 in
theorem on_done (B P n tc : Nat) (ta : Option Addr) (pv : Value) (bs : List Nat) (at' : List (Option Nat)) (ts : List (Value × Sx)) (i c : Nat) (sj sm : Int) (r0 r1 r2 r3 r4 r5 r6 r7 r8 r9 r10 r11 r12 : Value) (w : World) (h : PS w B P pv bs at' ts) (hl : at'.length ≤ 1000) (hi : at'[i]? = some (some c)) : Calls Tryz.prog 21 #[.slice ta n tc, .pointer (some ⟨P, 0, none⟩), .agg #[.int .i64 7, .int .i64 (i : Int), .int .i64 sj, .int .i64 sm, r0, r1, r2, r3, r4, r5, r6, r7, r8, r9, r10, r11, r12]] w (OnP B P ts (at'.set i none) ⟨false, 0, .one .none⟩ w) := by
  obtain ⟨W0, hW0⟩ : ∃ W0, W0 = ((w.alloc (.cells #[.int .i64 7, .int .i64 (i : Int), .int .i64 sj, .int .i64 sm, r0, r1, r2, r3, r4, r5, r6, r7, r8, r9, r10, r11, r12] 35)).alloc (.cells #[.bool false, .bool false, .int .i64 0, .int .i64 0, .bool false, .slice none 0 0, .int .u64 0, .string ⟨#[]⟩, .slice none 0 0, .slice none 0 0] 37)) := ⟨_, rfl⟩
  have hb0 : Below w.heap.size w W0 := by rw [hW0]; exact ((Below.refl w.heap.size w).alloc (Nat.le_refl _) _).alloc (by simp) _
  have HK5 : Hid (Blk W0 w.heap.size 35 #[.int .i64 7, .int .i64 (i : Int), .int .i64 sj, .int .i64 sm, r0, r1, r2, r3, r4, r5, r6, r7, r8, r9, r10, r11, r12]) := by rw [hW0]; exact (Blk.new w _ _).alloc _
  have HK6 : Hid (Blk W0 (w.heap.size + 1) 37 #[.bool false, .bool false, .int .i64 0, .int .i64 0, .bool false, .slice none 0 0, .int .u64 0, .string ⟨#[]⟩, .slice none 0 0, .slice none 0 0]) := by rw [hW0]; exact Blk.new_at _ _ _ (by simp)
  have HZ0 : Hid (W0.heap.size = w.heap.size + 2) := by rw [hW0]; simp [Hid]
  have HPS0 := Lib.hid (h.below hb0)
  have HB0 := Lib.hid hb0
  have HST := Lib.hid (it_done B P i c pv bs at' ts sj sm r0 r1 r2 r3 r4 r5 r6 r7 r8 r9 r10 r11 r12 W0 HPS0.out hl hi)
  have HI := Lib.hid hi
  have HNE : Hid (¬ (pv.ownBlock = some (w.heap.size + 1) ∨ bs[i]? = some (w.heap.size + 1))) := fun e => by
    rcases e with e | e
    · have := (h.hrow.lt _ e).2; omega
    · have := (h.hlt _ (List.mem_of_getElem? e)).1; omega
  have s0 : W0.cell? ⟨w.heap.size, 0, none⟩ = some (.int .i64 7) := (HK5.out.cell 0).trans rfl
  have hs := fun q => HK5.out.cell q
  have s1 : W0.cell? ⟨w.heap.size, 1, none⟩ = some (.int .i64 (i : Int)) := (hs 1).trans rfl
  have s2 : W0.cell? ⟨w.heap.size, 2, none⟩ = some (.int .i64 sj) := (hs 2).trans rfl
  have s3 : W0.cell? ⟨w.heap.size, 3, none⟩ = some (.int .i64 sm) := (hs 3).trans rfl
  have s4 : W0.cell? ⟨w.heap.size, 4, none⟩ = some r0 := (hs 4).trans rfl
  have s5 : W0.cell? ⟨w.heap.size, 5, none⟩ = some r1 := (hs 5).trans rfl
  have s6 : W0.cell? ⟨w.heap.size, 6, none⟩ = some r2 := (hs 6).trans rfl
  have s7 : W0.cell? ⟨w.heap.size, 7, none⟩ = some r3 := (hs 7).trans rfl
  have s8 : W0.cell? ⟨w.heap.size, 8, none⟩ = some r4 := (hs 8).trans rfl
  have s9 : W0.cell? ⟨w.heap.size, 9, none⟩ = some r5 := (hs 9).trans rfl
  have s10 : W0.cell? ⟨w.heap.size, 10, none⟩ = some r6 := (hs 10).trans rfl
  have s11 : W0.cell? ⟨w.heap.size, 11, none⟩ = some r7 := (hs 11).trans rfl
  have s12 : W0.cell? ⟨w.heap.size, 12, none⟩ = some r8 := (hs 12).trans rfl
  have s13 : W0.cell? ⟨w.heap.size, 13, none⟩ = some r9 := (hs 13).trans rfl
  have s14 : W0.cell? ⟨w.heap.size, 14, none⟩ = some r10 := (hs 14).trans rfl
  have s15 : W0.cell? ⟨w.heap.size, 15, none⟩ = some r11 := (hs 15).trans rfl
  have s16 : W0.cell? ⟨w.heap.size, 16, none⟩ = some r12 := (hs 16).trans rfl
  clear hs
  have HSD := Lib.hid (own_typed h)
  clear h hl hi hb0
  go_enter Tryz.func21, Tryz.ntmps21
  go_upto_region 21 with fail
  rw [← hW0]
  clear hW0
  go_wp2_with fail
  refine HST.out.mono ?_
  rintro e w2 ⟨is, nn, k2, neg, aa, mm, cc, b, tx, ka, kn, kc, rfl, hra, hps, hO⟩
  have hk6 := HK6.out.only hO (HNE.out)
  have HK62 := Lib.hid hk6
  have HRA := Lib.hid hra
  have HPS2 := Lib.hid hps
  have HO2 := Lib.hid hO
  obtain ⟨p0, p1, p2, p3, p4, p5, p6, p7, p8, p9, q0, q1, q2, q3, q4, q5, q6, q7, q8, q9⟩ := blk_ten hk6
  clear hps hO hk6 hra
  go_wp2
  have hO10 := ten_keep (g := w.heap.size + 1) (d0 := .bool true) (d1 := .bool is) (d2 := .int .i64 nn) (d3 := .int .i64 k2) (d4 := .bool neg) (d5 := .slice aa mm cc) (d6 := .int .u64 b) (d7 := .string tx) (d8 := .slice ka kn kc) (d9 := .slice none 0 0) (Only.refl (· = w.heap.size + 1) w2) (.inl rfl)
  refine bodyPost_ret (v := .agg #[.bool true, .bool is, .int .i64 nn, .int .i64 k2, .bool neg, .slice aa mm cc, .int .u64 b, .string tx, .slice ka kn kc, .slice none 0 0]) (by simp [results, Tryz.results21, go_sem, p0, p1, p2, p3, p4, p5, p6, p7, p8, p9]) rfl ⟨is, nn, k2, neg, aa, mm, cc, b, tx, ka, kn, kc, pv, bs, rfl, HRA.out.typ (typ_one HK62.out) hO10 (by decide) (by decide), HPS2.out.typ (typ_one HK62.out) hO10 (by decide) (by decide) (by decide) (by decide) (by decide) (by decide), ?_⟩
  refine ⟨fun q => pv.ownBlock = some q ∨ bs[i]? = some q, ten_keep ((Only.of_below HB0.out).trans HO2.out) (.inr (Nat.le_succ _)), ?_, ?_⟩
  · exact HSD.out.1 i c HI.out
  · exact HSD.out.2 i
set_option maxRecDepth 100000 in
set_option maxHeartbeats 8000000 in
theorem on_next (B P n tc : Nat) (ta : Option Addr) (pv : Value) (bs : List Nat) (at' : List (Option Nat)) (ts : List (Value × Sx)) (i c : Nat) (sj sm : Int) (r0 r1 r2 r3 r4 r5 r6 r7 r8 r9 r10 r11 r12 : Value) (w : World) (h : PS w B P pv bs at' ts) (hl : at'.length ≤ 1000) (hi : at'[i]? = some (some c)) (hN : ∀ p ∈ ts, NormX p.2) (h8 : ts.length ≤ 8) : Calls Tryz.prog 21 #[.slice ta n tc, .pointer (some ⟨P, 0, none⟩), .agg #[.int .i64 6, .int .i64 (i : Int), .int .i64 sj, .int .i64 sm, r0, r1, r2, r3, r4, r5, r6, r7, r8, r9, r10, r11, r12]] w (fun e w' => ∃ at2 a, ((ts.length ≤ c ∧ at2 = at' ∧ a = ⟨false, 0, .one .none⟩) ∨ ∃ hc : c < ts.length, at2 = at'.set i (some (c + 1)) ∧ a = ⟨true, 0, .one (ts[c]'hc).2⟩) ∧ OnP B P ts at2 a w e w') := by
  obtain ⟨W0, hW0⟩ : ∃ W0, W0 = ((w.alloc (.cells #[.int .i64 6, .int .i64 (i : Int), .int .i64 sj, .int .i64 sm, r0, r1, r2, r3, r4, r5, r6, r7, r8, r9, r10, r11, r12] 35)).alloc (.cells #[.bool false, .bool false, .int .i64 0, .int .i64 0, .bool false, .slice none 0 0, .int .u64 0, .string ⟨#[]⟩, .slice none 0 0, .slice none 0 0] 37)) := ⟨_, rfl⟩
  have hb0 : Below w.heap.size w W0 := by rw [hW0]; exact ((Below.refl w.heap.size w).alloc (Nat.le_refl _) _).alloc (by simp) _
  have HK5 : Hid (Blk W0 w.heap.size 35 #[.int .i64 6, .int .i64 (i : Int), .int .i64 sj, .int .i64 sm, r0, r1, r2, r3, r4, r5, r6, r7, r8, r9, r10, r11, r12]) := by rw [hW0]; exact (Blk.new w _ _).alloc _
  have HK6 : Hid (Blk W0 (w.heap.size + 1) 37 #[.bool false, .bool false, .int .i64 0, .int .i64 0, .bool false, .slice none 0 0, .int .u64 0, .string ⟨#[]⟩, .slice none 0 0, .slice none 0 0]) := by rw [hW0]; exact Blk.new_at _ _ _ (by simp)
  have HZ0 : Hid (W0.heap.size = w.heap.size + 2) := by rw [hW0]; simp [Hid]
  have HPS0 := Lib.hid (h.below hb0)
  have HB0 := Lib.hid hb0
  have HST := Lib.hid (it_next B P i c pv bs at' ts sj sm r0 r1 r2 r3 r4 r5 r6 r7 r8 r9 r10 r11 r12 W0 HPS0.out hl hi hN h8)
  have HI := Lib.hid hi
  have HNE : Hid (¬ (pv.ownBlock = some (w.heap.size + 1) ∨ bs[i]? = some (w.heap.size + 1))) := fun e => by
    rcases e with e | e
    · have := (h.hrow.lt _ e).2; omega
    · have := (h.hlt _ (List.mem_of_getElem? e)).1; omega
  clear hN
  have s0 : W0.cell? ⟨w.heap.size, 0, none⟩ = some (.int .i64 6) := (HK5.out.cell 0).trans rfl
  have hs := fun q => HK5.out.cell q
  have s1 : W0.cell? ⟨w.heap.size, 1, none⟩ = some (.int .i64 (i : Int)) := (hs 1).trans rfl
  have s2 : W0.cell? ⟨w.heap.size, 2, none⟩ = some (.int .i64 sj) := (hs 2).trans rfl
  have s3 : W0.cell? ⟨w.heap.size, 3, none⟩ = some (.int .i64 sm) := (hs 3).trans rfl
  have s4 : W0.cell? ⟨w.heap.size, 4, none⟩ = some r0 := (hs 4).trans rfl
  have s5 : W0.cell? ⟨w.heap.size, 5, none⟩ = some r1 := (hs 5).trans rfl
  have s6 : W0.cell? ⟨w.heap.size, 6, none⟩ = some r2 := (hs 6).trans rfl
  have s7 : W0.cell? ⟨w.heap.size, 7, none⟩ = some r3 := (hs 7).trans rfl
  have s8 : W0.cell? ⟨w.heap.size, 8, none⟩ = some r4 := (hs 8).trans rfl
  have s9 : W0.cell? ⟨w.heap.size, 9, none⟩ = some r5 := (hs 9).trans rfl
  have s10 : W0.cell? ⟨w.heap.size, 10, none⟩ = some r6 := (hs 10).trans rfl
  have s11 : W0.cell? ⟨w.heap.size, 11, none⟩ = some r7 := (hs 11).trans rfl
  have s12 : W0.cell? ⟨w.heap.size, 12, none⟩ = some r8 := (hs 12).trans rfl
  have s13 : W0.cell? ⟨w.heap.size, 13, none⟩ = some r9 := (hs 13).trans rfl
  have s14 : W0.cell? ⟨w.heap.size, 14, none⟩ = some r10 := (hs 14).trans rfl
  have s15 : W0.cell? ⟨w.heap.size, 15, none⟩ = some r11 := (hs 15).trans rfl
  have s16 : W0.cell? ⟨w.heap.size, 16, none⟩ = some r12 := (hs 16).trans rfl
  clear hs
  have HSD := Lib.hid (own_typed h)
  clear h hl hi hb0
  go_enter Tryz.func21, Tryz.ntmps21
  go_upto_region 21 with fail
  rw [← hW0]
  clear hW0
  go_wp2_with fail
  refine HST.out.mono ?_
  rintro e w2 ⟨at2, a, hcase, ⟨is, nn, k2, neg, aa, mm, cc, b, tx, ka, kn, kc, rfl, hra, hps, hO⟩⟩
  have HCASE := Lib.hid hcase
  clear hcase
  have hk6 := HK6.out.only hO (HNE.out)
  have HK62 := Lib.hid hk6
  have HRA := Lib.hid hra
  have HPS2 := Lib.hid hps
  have HO2 := Lib.hid hO
  obtain ⟨p0, p1, p2, p3, p4, p5, p6, p7, p8, p9, q0, q1, q2, q3, q4, q5, q6, q7, q8, q9⟩ := blk_ten hk6
  clear hps hO hk6 hra
  go_wp2
  have hO10 := ten_keep (g := w.heap.size + 1) (d0 := .bool true) (d1 := .bool is) (d2 := .int .i64 nn) (d3 := .int .i64 k2) (d4 := .bool neg) (d5 := .slice aa mm cc) (d6 := .int .u64 b) (d7 := .string tx) (d8 := .slice ka kn kc) (d9 := .slice none 0 0) (Only.refl (· = w.heap.size + 1) w2) (.inl rfl)
  refine bodyPost_ret (v := .agg #[.bool true, .bool is, .int .i64 nn, .int .i64 k2, .bool neg, .slice aa mm cc, .int .u64 b, .string tx, .slice ka kn kc, .slice none 0 0]) (by simp [results, Tryz.results21, go_sem, p0, p1, p2, p3, p4, p5, p6, p7, p8, p9]) rfl ⟨at2, a, HCASE.out, is, nn, k2, neg, aa, mm, cc, b, tx, ka, kn, kc, pv, bs, rfl, HRA.out.typ (typ_one HK62.out) hO10 (by decide) (by decide), HPS2.out.typ (typ_one HK62.out) hO10 (by decide) (by decide) (by decide) (by decide) (by decide) (by decide), ?_⟩
  refine ⟨fun q => pv.ownBlock = some q ∨ bs[i]? = some q, ten_keep ((Only.of_below HB0.out).trans HO2.out) (.inr (Nat.le_succ _)), ?_, ?_⟩
  · exact HSD.out.1 i c HI.out
  · exact HSD.out.2 i
end Go.Proofs.YteibkaonofkcbaaGreat
