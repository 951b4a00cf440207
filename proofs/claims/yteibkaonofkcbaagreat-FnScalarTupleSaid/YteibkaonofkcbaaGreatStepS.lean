/- The reference's slice of a list: stepList. -/
import Derived.Test.YteibkaonofkcbaaGreatStepT
namespace Go.Proofs.YteibkaonofkcbaaGreat
open Go.RowKit
set_option linter.unusedSimpArgs false
set_option linter.unusedVariables false
attribute [local go_sem ↓] Go.wp_at_zero Go.wp_at_succ
def sl_sliceP (S n : Nat) (l : List Sx) (w : World) (e : Ending) (w' : World) : Prop :=
  ∃ (i j m : Int) (q : Option Addr) (qm qc : Nat) (qs : List (Value × Sx)), Bnd n i j m ∧ e = .returned (.agg #[.bool true, .bool false, .int .i64 0, .int .i64 6, .bool false, .slice none 0 0, .int .u64 0, .string ⟨#[]⟩, .slice q qm qc, .slice none 0 0]) ∧ RowX w' w.heap.size (.slice q qm qc) qs ∧ qs.length = qm ∧ qs.map (·.2) = cutX l 9 i j m ∧ Blk w' S 35 #[.int .i64 27, .int .i64 i, .int .i64 j, .int .i64 m, .int .i64 0, .bool false, .slice none 0 0, .int .u64 0, .string ⟨#[]⟩, .slice none 0 0, .int .i64 0, .bool false, .slice none 0 0, .int .u64 0, .string ⟨#[]⟩, .slice none 0 0, .slice none 0 0] ∧ Only (· = S) w w'
set_option maxRecDepth 100000 in
set_option maxHeartbeats 8000000 in
theorem sl_slice (S L : Nat) (si sj sm : Int) (r0 r1 r2 r3 r4 r5 r6 r7 r8 r9 r10 r11 r12 r13 r14 r15 r16 : Value) (fx : Bool) (ia : Option Addr) (n ic : Nat) (w : World) (B : Nat) (ps : List (Value × Sx)) (hx : RowX w B (.slice ia n ic) ps) (hp : ps.length = n) (hs : Blk w S 35 #[.int .i64 27, .int .i64 si, .int .i64 sj, .int .i64 sm, .int .i64 0, .bool false, .slice none 0 0, .int .u64 0, .string ⟨#[]⟩, .slice none 0 0, .int .i64 0, .bool false, .slice none 0 0, .int .u64 0, .string ⟨#[]⟩, .slice none 0 0, .slice none 0 0]) (hL : Blk w L 22 #[.slice ia n ic]) (hn8 : n ≤ 8) :
    Calls Tryz.prog 13 #[.pointer (some ⟨S, 0, none⟩), .agg #[r0, r1, r2, r3, r4, r5, r6, r7, r8, r9, r10, r11, r12, r13, r14, r15, r16], .pointer (some ⟨L, 0, none⟩), .bool fx] w (sl_sliceP S n (ps.map (·.2)) w) := by
  obtain ⟨w0, hw0⟩ : ∃ w0, w0 = (((w.alloc (.cells #[r0, r1, r2, r3, r4, r5, r6, r7, r8, r9, r10, r11, r12, r13, r14, r15, r16] 35)).alloc (.cells #[.bool false, .bool false, .int .i64 0, .int .i64 0, .bool false, .slice none 0 0, .int .u64 0, .string ⟨#[]⟩, .slice none 0 0, .slice none 0 0] 37)).alloc (.cells #[.bool true, .bool false, .int .i64 0, .int .i64 0, .bool false, .slice none 0 0, .int .u64 0, .string ⟨#[]⟩, .slice none 0 0, .slice none 0 0] 37)) := ⟨_, rfl⟩
  have HB0 : Hid (Below w.heap.size w w0) := by rw [hw0]; exact (((Below.refl w.heap.size w).alloc (Nat.le_refl _) _).alloc (by simp) _).alloc (by simp; omega) _
  have HK6 : Hid (Blk w0 (w.heap.size + 1) 37 #[.bool false, .bool false, .int .i64 0, .int .i64 0, .bool false, .slice none 0 0, .int .u64 0, .string ⟨#[]⟩, .slice none 0 0, .slice none 0 0]) := by rw [hw0]; exact (Blk.new_at _ _ _ (by simp)).alloc _
  have HK8 : Hid (Blk w0 (w.heap.size + 1 + 1) 37 #[.bool true, .bool false, .int .i64 0, .int .i64 0, .bool false, .slice none 0 0, .int .u64 0, .string ⟨#[]⟩, .slice none 0 0, .slice none 0 0]) := by rw [hw0]; exact Blk.new_at _ _ _ (by simp)
  have HZ0 : Hid (w0.heap.size = w.heap.size + 3) := by rw [hw0]; simp [Hid]
  have hs0 := hs.below HB0.out hs.lt
  have hL0 := hL.below HB0.out hL.lt
  have hl := hs.lt
  have hLl := hL.lt
  have hl1 : S < w.heap.size + 1 := by omega
  have hl2 : S < w.heap.size + 1 + 1 := by omega
  have hL1 : L < w.heap.size + 1 := by omega
  have hL2 : L < w.heap.size + 1 + 1 := by omega
  have c0 : w.cell? ⟨S, 0, none⟩ = some (.int .i64 27) := (hs.cell 0).trans rfl
  have c1 : w.cell? ⟨S, 1, none⟩ = some (.int .i64 si) := (hs.cell 1).trans rfl
  have b0 : w0.cell? ⟨S, 0, none⟩ = some (.int .i64 27) := (hs0.cell 0).trans rfl
  have b1 : w0.cell? ⟨S, 1, none⟩ = some (.int .i64 si) := (hs0.cell 1).trans rfl
  have f0 : w0.frozen? ⟨S, 0, none⟩ = false := hs0.frozen 0
  have f1 : w0.frozen? ⟨S, 1, none⟩ = false := hs0.frozen 1
  have e0 : w.frozen? ⟨S, 0, none⟩ = false := hs.frozen 0
  have e1 : w.frozen? ⟨S, 1, none⟩ = false := hs.frozen 1
  have l0 : w.cell? ⟨L, 0, none⟩ = some (.slice ia n ic) := (hL.cell 0).trans rfl
  have l0' : w0.cell? ⟨L, 0, none⟩ = some (.slice ia n ic) := (hL0.cell 0).trans rfl
  have n1 : ¬ S = w.heap.size := by omega
  have n2 : ¬ S = w.heap.size + 1 := by omega
  have n3 : ¬ S = w.heap.size + 1 + 1 := by omega
  have n1' : ¬ w.heap.size = S := by omega
  have n2' : ¬ w.heap.size + 1 = S := by omega
  have n3' : ¬ w.heap.size + 1 + 1 = S := by omega
  have m1 : ¬ L = w.heap.size := by omega
  have m2 : ¬ L = w.heap.size + 1 := by omega
  have m3 : ¬ L = w.heap.size + 1 + 1 := by omega
  have n5 : ¬ L = S := by
    intro e
    subst e
    have := hs.symm.trans hL
    injection this with h
    injection h with _ h
    exact absurd h (by decide)
  have n5' : ¬ S = L := fun e => n5 e.symm
  have HS0 := Lib.hid hs0
  have HL0 := Lib.hid hL0
  have HX0 := Lib.hid (hx.below HB0.out)
  have HP := Lib.hid hp
  have b2 : w0.cell? ⟨S, 2, none⟩ = some (.int .i64 sj) := (hs0.cell 2).trans rfl
  have b3 : w0.cell? ⟨S, 3, none⟩ = some (.int .i64 sm) := (hs0.cell 3).trans rfl
  have f2 : w0.frozen? ⟨S, 2, none⟩ = false := hs0.frozen 2
  have f3 : w0.frozen? ⟨S, 3, none⟩ = false := hs0.frozen 3
  clear hs hL hs0 hL0 hx hp
  have HB9 := HB0
  go_enter Tryz.func13, Tryz.ntmps13
  go_upto_region 30 with fail
  rw [← hw0]
  clear hw0 c0 c1 e0 e1 l0
  go_cut [191] from 192 to 218 (fun s9 wx => Hid (EndR n S w0 wx))
  case first =>
    go_region_with (go_at_call 30; refine (ends_any n _ _ _ _ (by omega)).mono ?_; rintro e w1 ⟨i, j, m, rfl, hb, rfl⟩; have HBD := Lib.hid hb; clear hb)
    all_goals
      go_step
      go_step
      go_meet
      exact Lib.hid ⟨i, j, m, HBD.out, (Blk.put (Blk.put (Blk.put HS0.out 1 _) 2 _) 3 _).drew, ((((Only.refl (· = S) w0).setCell (p := ⟨S, 1, none⟩) (.inl rfl) _).setCell (p := ⟨S, 2, none⟩) (.inl rfl) _).setCell (p := ⟨S, 3, none⟩) (.inl rfl) _).drew⟩
  case rest =>
    obtain ⟨i, j, m, hbd, hsx, hox⟩ := hcut.out
    clear hcut
    have HSX := Lib.hid hsx
    have HOX := Lib.hid hox
    have HLX : Hid (Blk wc L 22 #[.slice ia n ic]) := HL0.out.only hox n5
    have HXX : Hid (RowX wc B (.slice ia n ic) ps) := HX0.out.far HS0.out (by decide) (by decide) hox
    have HBD := Lib.hid hbd
    have HCT := Lib.hid (fun W (h : Below wc.heap.size wc W) => cutx_any B n ic ia ps i j m W (HXX.out.below h) HP.out hn8 hbd)
    have HC : Hid (∀ W, Only (· = w.heap.size + 1 + 1) wc W → W.cell? ⟨L, 0, none⟩ = some (.slice ia n ic) ∧ W.cell? ⟨S, 1, none⟩ = some (.int .i64 i) ∧ W.cell? ⟨S, 2, none⟩ = some (.int .i64 j) ∧ W.cell? ⟨S, 3, none⟩ = some (.int .i64 m)) := fun W h => by
      have k := HSX.out.only h n3
      exact ⟨((HLX.out.only h m3).cell 0).trans rfl, (k.cell 1).trans rfl, (k.cell 2).trans rfl, (k.cell 3).trans rfl⟩
    have HD := Lib.hid (Below.refl wc.heap.size wc).drew
    have HK6X := Lib.hid (HK6.out.only hox n2')
    have HK8X := Lib.hid (HK8.out.only hox n3')
    clear hbd hsx hox b0 b1 f0 f1 b2 b3 f2 f3 l0'
    go_wp2_with fail
    have HOA := Lib.hid (Only.refl (· = w.heap.size + 1 + 1) wc).drew
    go_region_held3 (fun W => W.cell? ⟨L, 0, none⟩ = some (.slice ia n ic) ∧ W.cell? ⟨S, 1, none⟩ = some (.int .i64 i) ∧ W.cell? ⟨S, 2, none⟩ = some (.int .i64 j) ∧ W.cell? ⟨S, 3, none⟩ = some (.int .i64 m))
      (first | (with_reducible exact HC.out _ HOA.out) | (with_reducible exact HC.out _ HOB.out) | (with_reducible exact HC.out _ (keep6 HOB.out (.inl rfl))) | go_keep)
      (first | (go_at_call 31; refine (HCT.out _ HD.out).mono ?_; rintro e w3 ⟨v, qs, rfl, hr, hq, hb3⟩; have HOB := Lib.hid (HOA.out.below hb3); obtain ⟨q, qc, hv⟩ := hr.form; obtain ⟨qm, hqm⟩ : ∃ qm, qm = qs.length := ⟨_, rfl⟩; rw [← hqm] at hv; have HQM := Lib.hid hqm; subst hv; have HR := Lib.hid hr; have HQ := Lib.hid hq; have HB3 := Lib.hid hb3; have hk6 := HK6X.out.drew.below hb3 HK6X.out.lt; have hk8 := HK8X.out.drew.below hb3 HK8X.out.lt; have HK6W := Lib.hid hk6; have HK8W := Lib.hid hk8; obtain ⟨p0, p1, p2, p3, p4, p5, p6, p7, p8, p9, q0, q1, q2, q3, q4, q5, q6, q7, q8, q9⟩ := blk_ten hk6; obtain ⟨t0, t1, t2, t3, t4, t5, t6, t7, t8, t9, u0, u1, u2, u3, u4, u5, u6, u7, u8, u9⟩ := blk_ten hk8; clear hr hq hqm hb3 hk6 hk8))
    go_wp2
    refine bodyPost_ret (v := .agg #[.bool true, .bool false, .int .i64 0, .int .i64 6, .bool false, .slice none 0 0, .int .u64 0, .string ⟨#[]⟩, .slice q qm qc, .slice none 0 0]) (by simp [results, Tryz.results13, go_sem, p0, p1, p2, p3, p4, p5, p6, p7, p8, p9]) rfl ⟨i, j, m, q, qm, qc, qs, HBD.out, rfl, ?_, HQM.out.symm, HQ.out, ?_, ?_⟩
    · have hO6 : Only (· = w.heap.size + 1 + 1) w3 _ := keep6 (g := w.heap.size + 1 + 1) (d3 := .int .i64 6) (d4 := .bool false) (d5 := .slice none 0 0) (d6 := .int .u64 0) (d7 := .string ⟨#[]⟩) (d8 := .slice q qm qc) (Only.refl (· = w.heap.size + 1 + 1) w3) (.inl rfl)
      have h1 := HR.out.far HK8W.out (by decide) (by decide) hO6
      have hk := HK6W.out.only hO6 (by omega)
      have h2 := h1.far hk (by decide) (by decide) (ten_keep (g := w.heap.size + 1) (d0 := .bool true) (d1 := .bool false) (d2 := .int .i64 0) (d3 := .int .i64 6) (d4 := .bool false) (d5 := .slice none 0 0) (d6 := .int .u64 0) (d7 := .string ⟨#[]⟩) (d8 := .slice q qm qc) (d9 := .slice none 0 0) (Only.refl (· = w.heap.size + 1) _) (.inl rfl))
      exact ⟨own_base h2.1 (Nat.le_trans HB9.out.size HOX.out.size), h2.2⟩
    · exact ten_blk (((HSX.out.only HOB.out n3)).only (keep6 (Only.refl (· = w.heap.size + 1 + 1) w3) (.inl rfl)) n3) n2
    · have h0 := ((Only.of_below (S := (· = S)) HB9.out).trans HOX.out).drew.below HB3.out
      exact ten_keep (keep6 h0 (.inr (by omega))) (.inr (Nat.le_succ _))
end Go.Proofs.YteibkaonofkcbaaGreat
