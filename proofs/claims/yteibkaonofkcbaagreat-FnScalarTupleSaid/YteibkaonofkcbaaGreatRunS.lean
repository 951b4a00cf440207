/- The reference's script over a list: a step that is left to stepList. -/
import Derived.Test.YteibkaonofkcbaaGreatRunL
namespace Go.Proofs.YteibkaonofkcbaaGreat
open Go.RowKit
set_option linter.unusedSimpArgs false
set_option linter.unusedVariables false
attribute [local go_sem ↓] Go.wp_at_zero Go.wp_at_succ
set_option maxRecDepth 100000 in
set_option maxHeartbeats 16000000 in
theorem run_region16 {Q : Exit → Act → World → Prop} (hP : ∀ c (a : Act) (d : Tmp) (v : Value) (w : World), Q (.panic c) (a.put (some d) v) w → Q (.panic c) a w) {u0 u2 u3 u4 u5 u6 u8 u9 u11 u12 u16 u17 u18 u19 u20 u21 u22 u23 u24 u25 u26 u27 u28 u29 u30 u31 u32 u33 u34 u35 u36 u37 u38 u39 u40 u41 u42 u43 u44 u45 u46 u47 u48 u49 u50 u51 u52 u53 u54 u55 u56 u57 u58 u59 u60 u61 u62 u63 u64 u65 u66 u67 u68 u69 u70 u71 u72 u73 u74 u75 u76 u77 u78 u79 u80 u81 u82 u83 u84 u85 u86 u87 u88 u89 u90 u91 u92 u93 u94 u95 u96 u97 u98 : Value} (w Y X : World) (L G S A j nst sc gS i : Nat) (k0 si sj sm : Int) (r0 r1 r2 r3 r4 r5 r6 r7 r8 r9 r10 r11 r12 : Value) (la : Option Addr) (lc : Nat) (qs : List (Value × Sx)) (at' : List (Option Nat)) (atv : Value) (ax : Array Value) (hax10 : ∃ d0 d1 d2 d3 d4 d5 d6 d7 d8 d9, ax = #[d0, d1, d2, d3, d4, d5, d6, d7, d8, d9])
    (hc17 : ∀ W, Below w.heap.size w W → W.cell? ⟨gS, j * 17, none⟩ = some (.int .i64 k0) ∧ W.cell? ⟨gS, j * 17 + 1, none⟩ = some (.int .i64 si) ∧ W.cell? ⟨gS, j * 17 + 2, none⟩ = some (.int .i64 sj) ∧ W.cell? ⟨gS, j * 17 + 3, none⟩ = some (.int .i64 sm) ∧ W.cell? ⟨gS, j * 17 + 4, none⟩ = some (r0) ∧ W.cell? ⟨gS, j * 17 + 5, none⟩ = some (r1) ∧ W.cell? ⟨gS, j * 17 + 6, none⟩ = some (r2) ∧ W.cell? ⟨gS, j * 17 + 7, none⟩ = some (r3) ∧ W.cell? ⟨gS, j * 17 + 8, none⟩ = some (r4) ∧ W.cell? ⟨gS, j * 17 + 9, none⟩ = some (r5) ∧ W.cell? ⟨gS, j * 17 + 10, none⟩ = some (r6) ∧ W.cell? ⟨gS, j * 17 + 11, none⟩ = some (r7) ∧ W.cell? ⟨gS, j * 17 + 12, none⟩ = some (r8) ∧ W.cell? ⟨gS, j * 17 + 13, none⟩ = some (r9) ∧ W.cell? ⟨gS, j * 17 + 14, none⟩ = some (r10) ∧ W.cell? ⟨gS, j * 17 + 15, none⟩ = some (r11) ∧ W.cell? ⟨gS, j * 17 + 16, none⟩ = some (r12)) (hjn : j < nst) (hbw : Below w.heap.size w Y) (hyx : Below Y.heap.size Y X) (hg : GuardB Y w.heap.size G atv at') (hsy : Blk Y S 35 #[.int .i64 k0, .int .i64 si, .int .i64 sj, .int .i64 sm, .int .i64 0, .bool false, .slice none 0 0, .int .u64 0, .string ⟨#[]⟩, .slice none 0 0, .int .i64 0, .bool false, .slice none 0 0, .int .u64 0, .string ⟨#[]⟩, .slice none 0 0, .slice none 0 0]) (hsb : w.heap.size ≤ S) (hL : Blk Y L 22 #[.slice la i lc]) (hx : RowX Y w.heap.size (.slice la i lc) qs) (hql : qs.length = i) (hi8 : i ≤ 8) (hk2 : k0 = 2 ∨ k0 = 27) (hA : Blk X A 37 ax) (hAY : Y.heap.size ≤ A)
    (hQ : ∀ (v81 v82 v83 v84 v85 v86 v87 : Value) (wx : World), StepQ w.heap.size G S A atv at' (qs.map (·.2)) Y wx → Q .normal ⟨#[u0, .slice (some ⟨gS, 0, none⟩) nst sc, u2, u3, u4, u5, u6, .pointer (some ⟨L, 0, none⟩), u8, u9, .pointer (some ⟨G, 0, none⟩), u11, u12, .int .i64 (j : Int), .pointer (some ⟨S, 0, none⟩), .pointer (some ⟨A, 0, none⟩), u16, u17, u18, u19, u20, u21, u22, u23, u24, u25, u26, u27, u28, u29, u30, u31, u32, u33, u34, u35, u36, u37, u38, u39, u40, u41, u42, u43, u44, u45, u46, u47, u48, u49, u50, u51, u52, u53, u54, u55, u56, u57, u58, u59, u60, u61, u62, u63, u64, u65, u66, u67, u68, u69, u70, u71, u72, u73, u74, u75, u76, u77, u78, u79, u80, v81, v82, v83, v84, v85, v86, v87, u88, u89, u90, u91, u92, u93, u94, u95, u96, u97, u98], []⟩ wx) :
    Code.wp Tryz.prog (regAt 16 Tryz.f4) Q ⟨#[u0, .slice (some ⟨gS, 0, none⟩) nst sc, u2, u3, u4, u5, u6, .pointer (some ⟨L, 0, none⟩), u8, u9, .pointer (some ⟨G, 0, none⟩), u11, u12, .int .i64 (j : Int), .pointer (some ⟨S, 0, none⟩), .pointer (some ⟨A, 0, none⟩), u16, u17, u18, u19, u20, u21, u22, u23, u24, u25, u26, u27, u28, u29, u30, u31, u32, u33, u34, u35, u36, u37, u38, u39, u40, u41, u42, u43, u44, u45, u46, u47, u48, u49, u50, u51, u52, u53, u54, u55, u56, u57, u58, u59, u60, u61, u62, u63, u64, u65, u66, u67, u68, u69, u70, u71, u72, u73, u74, u75, u76, u77, u78, u79, u80, u81, u82, u83, u84, u85, u86, u87, u88, u89, u90, u91, u92, u93, u94, u95, u96, u97, u98], []⟩ X := by
  obtain ⟨d0, d1, d2, d3, d4, d5, d6, d7, d8, d9, rfl⟩ := hax10
  have hj0 : (0 : Int) ≤ (j : Int) := by omega
  have hj1 : (j : Int) < (nst : Int) := by omega
  have hSY : S < Y.heap.size := hsy.lt
  have HC17 := Lib.hid hc17
  have HBWY := Lib.hid hbw
  have HGY := Lib.hid hg
  have HSY := Lib.hid hsy
  have HSB := Lib.hid hsb
  have HLY := Lib.hid hL
  have HXY := Lib.hid hx
  have HAX := Lib.hid hA
  have HYX := Lib.hid hyx
  have HAY := Lib.hid hAY
  have HNE : Hid (¬ A = S ∧ ¬ S = A) := ⟨by omega, by omega⟩
  have HFX := Lib.hid (fun W (h : Below X.heap.size X W) => fixed_any w.heap.size G atv at' W ((hg.below hyx).below h))
  have HSL := Lib.hid (fun fx W (h : Below X.heap.size X W) => sl_any S L k0 si sj sm (.int .i64 k0) (.int .i64 si) (.int .i64 sj) (.int .i64 sm) r0 r1 r2 r3 r4 r5 r6 r7 r8 r9 r10 r11 r12 fx la i lc W w.heap.size at' qs ((hx.below hyx).below h) hql ((hsy.below hyx hSY).below h (Nat.lt_of_lt_of_le hSY hyx.size)) ((hL.below hyx hL.lt).below h (Nat.lt_of_lt_of_le hL.lt hyx.size)) hi8 hk2)
  have HBWX := Lib.hid (hbw.trans (hyx.mono hbw.size))
  have HD := Lib.hid (Below.refl X.heap.size X).drew
  clear hjn hbw hyx hg hsy hsb hL hx hql hi8 hk2 hA hAY hSY hc17
  change Code.wp _ (Code.region 16 _ true) _ _ _
  refine wp_region_held_drew (S := fun W => Below w.heap.size w W) (by kernel_rfl) HBWX.out.drew (fun hHeld => ?_)
  refine wpAnyH_take (i := 0) (v := ?_) rfl (by kernel_rfl) (by kernel_rfl) (by kernel_rfl) (fun c _ _ h => hP c _ _ _ _ h) (Or.inl ⟨by rfl, ?_⟩) (by assumption) ?_
  rotate_left
  · intro w9 hSw
    go_simp
    (try with_reducible rfl)
  try simp only [Act.put, List.getElem_toArray, List.getElem_cons_zero, List.getElem_cons_succ, List.setIfInBounds_toArray, List.set_cons_zero, List.set_cons_succ]
  refine wpAnyH_take (i := 1) (v := ?_) rfl (by kernel_rfl) (by kernel_rfl) (by kernel_rfl) (fun c _ _ h => hP c _ _ _ _ h) (Or.inl ⟨by rfl, ?_⟩) (by assumption) ?_
  rotate_left
  · intro w9 hSw
    go_simp
    (try with_reducible rfl)
  try simp only [Act.put, List.getElem_toArray, List.getElem_cons_zero, List.getElem_cons_succ, List.setIfInBounds_toArray, List.set_cons_zero, List.set_cons_succ]
  refine wpAnyH_take (i := 2) (v := ?_) rfl (by kernel_rfl) (by kernel_rfl) (by kernel_rfl) (fun c _ _ h => hP c _ _ _ _ h) (Or.inl ⟨by rfl, ?_⟩) (by assumption) ?_
  rotate_left
  · intro w9 hSw
    go_simp
    (try with_reducible rfl)
  try simp only [Act.put, List.getElem_toArray, List.getElem_cons_zero, List.getElem_cons_succ, List.setIfInBounds_toArray, List.set_cons_zero, List.set_cons_succ]
  refine wpAnyH_take (i := 3) (v := ?_) rfl (by kernel_rfl) (by kernel_rfl) (by kernel_rfl) (fun c _ _ h => hP c _ _ _ _ h) (Or.inl ⟨by rfl, ?_⟩) (by assumption) ?_
  rotate_left
  · intro w9 hSw
    obtain ⟨i0, i1, i2, i3, i4, i5, i6, i7, i8, i9, i10, i11, i12, i13, i14, i15, i16⟩ := HC17.out w9 hSw
    go_simp
    (try with_reducible rfl)
  try simp only [Act.put, List.getElem_toArray, List.getElem_cons_zero, List.getElem_cons_succ, List.setIfInBounds_toArray, List.set_cons_zero, List.set_cons_succ]
  refine wpAnyH_take (i := 4) (v := ?_) rfl (by kernel_rfl) (by kernel_rfl) (by kernel_rfl) (fun c _ _ h => hP c _ _ _ _ h) (Or.inl ⟨by rfl, ?_⟩) (by assumption) ?_
  rotate_left
  · intro w9 hSw
    go_simp
    (try with_reducible rfl)
  try simp only [Act.put, List.getElem_toArray, List.getElem_cons_zero, List.getElem_cons_succ, List.setIfInBounds_toArray, List.set_cons_zero, List.set_cons_succ]
  refine wpAnyH_ready (rs := [5]) (by kernel_rfl) (by simp) ?_
  refine (AllReadyH.cons rfl (fun K hK => ?_) AllReadyH.nil)
  go_simp
  refine (HFX.out _ HD.out).mono ?_
  rintro e w2 ⟨⟨fx, rfl⟩, rfl⟩
  go_wp2_with fail
  refine hK.out _ _ (HBWX.out.drew) (fun hHeld => ?_)
  clear hK K
  try simp only [Act.put, List.getElem_toArray, List.getElem_cons_zero, List.getElem_cons_succ, List.setIfInBounds_toArray, List.set_cons_zero, List.set_cons_succ]
  refine wpAnyH_ready (rs := [6]) (by kernel_rfl) (by simp) ?_
  refine (AllReadyH.cons rfl (fun K hK => ?_) AllReadyH.nil)
  go_simp
  refine (HSL.out _ _ HD.out).mono ?_
  rintro e w3 ⟨is2, nn2, k3, neg2, aa2, mm2, cc2, b2, tx2, ka2, kn2, kc2, k', i', j', m', a2, rfl, hra, hst, hs2, hO⟩
  have HB3 := Lib.hid (HBWX.out.drew.trans (hO.to_below (Nat.le_trans HBWX.out.size (Nat.le_refl _)) (fun q _ e => Nat.le_trans HSB.out (Nat.le_of_eq (Eq.symm e)))))
  have hax3 := HAX.out.drew.only hO HNE.out.1
  have HAX3 := Lib.hid hax3
  have HAB : Hid (w.heap.size ≤ A) := Nat.le_trans HBWY.out.size HAY.out
  have HRA := Lib.hid hra
  have HST2 := Lib.hid hst
  have HS2 := Lib.hid hs2
  have HO := Lib.hid hO
  obtain ⟨p0, p1, p2, p3, p4, p5, p6, p7, p8, p9, q0, q1, q2, q3, q4, q5, q6, q7, q8, q9⟩ := blk_ten hax3
  clear hra hst hs2 hO hax3
  go_wp2_with fail
  refine hK.out _ _ (HB3.out) (fun hHeld => ?_)
  clear hK K
  try simp only [Act.put, List.getElem_toArray, List.getElem_cons_zero, List.getElem_cons_succ, List.setIfInBounds_toArray, List.set_cons_zero, List.set_cons_succ]
  refine wpAnyH_ready (rs := [7]) (by kernel_rfl) (by simp) ?_
  refine (AllReadyH.cons rfl (fun K hK => ?_) AllReadyH.nil)
  go_simp
  refine hK.out _ _ (ten_below HB3.out HAB.out) (fun hHeld => ?_)
  clear hK K
  try simp only [Act.put, List.getElem_toArray, List.getElem_cons_zero, List.getElem_cons_succ, List.setIfInBounds_toArray, List.set_cons_zero, List.set_cons_succ]
  refine wpAnyH_done (by kernel_rfl) ?_ _
  have hO6 := ten_keep (g := A) (d0 := .bool true) (d1 := .bool is2) (d2 := .int .i64 nn2) (d3 := .int .i64 k3) (d4 := .bool neg2) (d5 := .slice aa2 mm2 cc2) (d6 := .int .u64 b2) (d7 := .string tx2) (d8 := .slice ka2 kn2 kc2) (d9 := .slice none 0 0) (Only.refl (· = A) w3) (.inl rfl)
  refine hQ _ _ _ _ _ _ _ _ ⟨is2, nn2, k3, neg2, aa2, mm2, cc2, b2, tx2, ka2, kn2, kc2, k', i', j', m', a2, at', atv, ten_put HAX3.out rfl, HRA.out.typ (typ_one HAX3.out) hO6 (by decide) (by decide), HST2.out, ten_blk HS2.out HNE.out.2, ?_, ?_⟩
  · exact (((HGY.out.below HYX.out).below HD.out).step ((HSY.out.below HYX.out HSY.out.lt).drew) HO.out).typ (typ_one HAX3.out) hO6 (by decide) (by decide)
  · exact ten_keep (((Only.of_below (S := (fun b => b = S ∨ b = G ∨ atv.ownBlock = some b)) HYX.out).drew).trans (HO.out.mono fun q _ hq => .inl hq)) (.inr HAY.out)
end Go.Proofs.YteibkaonofkcbaaGreat
