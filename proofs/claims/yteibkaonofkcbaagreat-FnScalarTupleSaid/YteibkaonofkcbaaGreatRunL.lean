/- The reference's script over a list: a value put behind the list, which lies in a box. -/
import Derived.Test.YteibkaonofkcbaaGreatTupJoinO
import Derived.Test.YteibkaonofkcbaaGreatTupJoinM
import Derived.Test.YteibkaonofkcbaaGreatClean2
import Derived.OrdersHeld
namespace Go.Proofs.YteibkaonofkcbaaGreat
open Go.RowKit
set_option linter.unusedSimpArgs false
set_option linter.unusedVariables false
attribute [local go_sem ↓] Go.wp_at_zero Go.wp_at_succ
theorem tail_below {B : Nat} {a w : World} {g k : Nat} {d0 d1 d2 d3 d4 d5 : Value} (h : Below B a w) (hg : B ≤ g) :
    Below B a ((((((w.setCell ⟨g, k, none⟩ d0).setCell ⟨g, k + 1, none⟩ d1).setCell ⟨g, k + 2, none⟩ d2).setCell ⟨g, k + 3, none⟩ d3).setCell ⟨g, k + 4, none⟩ d4).setCell ⟨g, k + 5, none⟩ d5) :=
  (((((h.setCell (p := ⟨g, k, none⟩) hg d0).setCell (p := ⟨g, k + 1, none⟩) hg d1).setCell (p := ⟨g, k + 2, none⟩) hg d2).setCell (p := ⟨g, k + 3, none⟩) hg d3).setCell (p := ⟨g, k + 4, none⟩) hg d4).setCell (p := ⟨g, k + 5, none⟩) hg d5
/-- A value put behind the list, which lies in a box. -/
def RunR (w wx : World) (L : Nat) (qs : List (Value × Sx)) : Prop := ∃ lv y s, Blk wx L 22 #[lv] ∧ RowX wx w.heap.size lv (qs ++ [(y, s)]) ∧ Below w.heap.size w wx
theorem run_leaf {w W : World} {L i m6 g c : Nat} {xs : List Value} {qs : List (Value × Sx)} {s : Sx} {lv : Value} {kd : Int} {n1 : Bool} {a1 : Option Addr} {m1 c1 : Nat} {b1 : Int} {x1 : ByteArray} (hm : m6 = i + 1)
    (hr : W.ownsRow w.heap.size 33 6 (.slice (some ⟨g, 0, none⟩) m6 c) (i + 1) (xs ++ z6)) (hx : xs.length = i * 6) (hq : ∀ p ∈ qs, XVal W 0 p.1 p.2) (hy : XVal W 0 (pv kd n1 a1 m1 c1 b1 x1 none 0 0) s) (hL : Blk W L 22 #[lv]) (hb : Below w.heap.size w W) (hle : w.heap.size ≤ L) (hg : w.heap.size ≤ g) (hxs : xs = qs.flatMap (fun p => c6 p.1) ∧ qs.length = i) :
    RunR w (((((((W.setCell ⟨g, i * 6, none⟩ (.int .i64 kd)).setCell ⟨g, i * 6 + 1, none⟩ (.bool n1)).setCell ⟨g, i * 6 + 2, none⟩ (.slice a1 m1 c1)).setCell ⟨g, i * 6 + 3, none⟩ (.int .u64 b1)).setCell ⟨g, i * 6 + 4, none⟩ (.string x1)).setCell ⟨g, i * 6 + 5, none⟩ (.slice none 0 0)).setCell ⟨L, 0, none⟩ (.slice (some ⟨g, 0, none⟩) m6 c)) L qs := by
  obtain ⟨hxs, hql⟩ := hxs
  obtain ⟨cs, hk⟩ := Blk.of_own (g := g) (n := 0) (c := 0) hr rfl
  have hne : ¬ L = g := fun e => own_ne_blk hr hL (by decide) g rfl e.symm
  have hrow := own_tail (d0 := .int .i64 kd) (d1 := .bool n1) (d2 := .slice a1 m1 c1) (d3 := .int .u64 b1) (d4 := .string x1) (d5 := .slice none 0 0) hr hx rfl
  have hO := tail_only (g := g) (k := i * 6) (d0 := .int .i64 kd) (d1 := .bool n1) (d2 := .slice a1 m1 c1) (d3 := .int .u64 b1) (d4 := .string x1) (d5 := .slice none 0 0) (Only.refl (· = g) W) (.inl rfl)
  have hL2 := hL.only hO hne
  have hO2 := (Only.refl (· = L) _).setCell (p := ⟨L, 0, none⟩) (.inl rfl) (.slice (some ⟨g, 0, none⟩) m6 c) (w := ((((((W.setCell ⟨g, i * 6, none⟩ (.int .i64 kd)).setCell ⟨g, i * 6 + 1, none⟩ (.bool n1)).setCell ⟨g, i * 6 + 2, none⟩ (.slice a1 m1 c1)).setCell ⟨g, i * 6 + 3, none⟩ (.int .u64 b1)).setCell ⟨g, i * 6 + 4, none⟩ (.string x1)).setCell ⟨g, i * 6 + 5, none⟩ (.slice none 0 0)))
  refine ⟨_, pv kd n1 a1 m1 c1 b1 x1 none 0 0, s, Blk.put hL2 0 _, ⟨?_, fun p hp => ?_⟩, (tail_below hb hg).setCell (p := ⟨L, 0, none⟩) hle _⟩
  · have h := own_only hrow hO2 (fun q hq e => own_ne_blk hrow hL2 (by decide) q hq e)
    rw [List.length_append, hql, List.flatMap_append, ← hxs]
    exact h
  · have h1 : XVal W 0 p.1 p.2 := by
      rcases List.mem_append.1 hp with hp | hp
      · exact hq p hp
      · simp at hp; subst hp; exact hy
    exact (h1.far hk (by decide) hO).far hL2 (by decide) hO2
theorem run_leaf2 {w W : World} {L i m6 g c : Nat} {xs : List Value} {qs : List (Value × Sx)} {s : Sx} {lv : Value} {kd : Int} {n1 : Bool} {a1 : Option Addr} {m1 c1 : Nat} {b1 : Int} {x1 : ByteArray} (hm : m6 = i + 1)
    (hr : W.ownsRow w.heap.size 33 6 (.slice (some ⟨g, 0, none⟩) m6 c) (i + 1) (xs ++ z6)) (hx : xs.length = i * 6) (hq : ∀ p ∈ qs, XVal W 0 p.1 p.2) (hy : XVal W 0 (pv kd n1 a1 m1 c1 b1 x1 none 0 0) s) (hL : Blk W L 22 #[lv]) (hb : Below w.heap.size w W) (hle : w.heap.size ≤ L) (hg : w.heap.size ≤ g) (hxs : xs = qs.flatMap (fun p => c6 p.1) ∧ qs.length = i) :
    RunR w (((((((W.setCell ⟨L, 0, none⟩ (.slice (some ⟨g, 0, none⟩) m6 c)).setCell ⟨g, i * 6, none⟩ (.int .i64 kd)).setCell ⟨g, i * 6 + 1, none⟩ (.bool n1)).setCell ⟨g, i * 6 + 2, none⟩ (.slice a1 m1 c1)).setCell ⟨g, i * 6 + 3, none⟩ (.int .u64 b1)).setCell ⟨g, i * 6 + 4, none⟩ (.string x1)).setCell ⟨g, i * 6 + 5, none⟩ (.slice none 0 0)) L qs := by
  obtain ⟨hxs, hql⟩ := hxs
  have hne : ¬ L = g := fun e => own_ne_blk hr hL (by decide) g rfl e.symm
  have hO2 := (Only.refl (· = L) W).setCell (p := ⟨L, 0, none⟩) (.inl rfl) (.slice (some ⟨g, 0, none⟩) m6 c)
  have hL2 := Blk.put hL 0 (.slice (some ⟨g, 0, none⟩) m6 c)
  have hr2 := own_only hr hO2 (fun q hq e => own_ne_blk hr hL (by decide) q hq e)
  obtain ⟨cs, hk⟩ := Blk.of_own (g := g) (n := 0) (c := 0) hr2 rfl
  have hrow := own_tail (d0 := .int .i64 kd) (d1 := .bool n1) (d2 := .slice a1 m1 c1) (d3 := .int .u64 b1) (d4 := .string x1) (d5 := .slice none 0 0) hr2 hx rfl
  have hO := tail_only (g := g) (k := i * 6) (d0 := .int .i64 kd) (d1 := .bool n1) (d2 := .slice a1 m1 c1) (d3 := .int .u64 b1) (d4 := .string x1) (d5 := .slice none 0 0) (Only.refl (· = g) (W.setCell ⟨L, 0, none⟩ (.slice (some ⟨g, 0, none⟩) m6 c))) (.inl rfl)
  refine ⟨_, pv kd n1 a1 m1 c1 b1 x1 none 0 0, s, hL2.only hO hne, ⟨?_, fun p hp => ?_⟩, tail_below (hb.setCell (p := ⟨L, 0, none⟩) hle _) hg⟩
  · rw [List.length_append, hql, List.flatMap_append, ← hxs]
    exact hrow
  · have h1 : XVal W 0 p.1 p.2 := by
      rcases List.mem_append.1 hp with hp | hp
      · exact hq p hp
      · simp at hp; subst hp; exact hy
    exact (h1.far hL (by decide) hO2).far hk (by decide) hO
/-- The region with this number. -/
def regionOf (id : Nat) : Code → Option Code
  | .region i ops d => if i = id then some (.region i ops d) else none
  | .seq a b => match regionOf id a with
    | some c => some c
    | none => regionOf id b
  | .cond _ a b => match regionOf id a with
    | some c => some c
    | none => regionOf id b
  | .block _ b => regionOf id b
  | .loop b => regionOf id b
  | .scope b => regionOf id b
  | _ => none
def regAt (id : Nat) (f : Func) : Code := match f.body with
  | some c => (regionOf id c).getD .skip
  | none => .skip
set_option maxRecDepth 100000 in
set_option maxHeartbeats 16000000 in
theorem run_region5 {Q : Exit → Act → World → Prop} (hP : ∀ c (a : Act) (d : Tmp) (v : Value) (w : World), Q (.panic c) (a.put (some d) v) w → Q (.panic c) a w) {u1 u2 u3 u4 u5 u6 u9 u10 u11 u12 u13 u14 u15 u16 u17 u18 u19 u20 u21 u22 u23 u24 u25 u26 u27 u28 u29 u30 u31 u32 u33 u34 u35 u36 u37 u38 u39 u40 u41 u42 u43 u44 u45 u46 u47 u48 u49 u50 u51 u52 u53 u54 u55 u56 u57 u58 u59 u60 u61 u62 u63 u64 u65 u66 u67 u68 u69 u70 u71 u72 u73 u74 u75 u76 u77 u78 u79 u80 u81 u82 u83 u84 u85 u86 u87 u88 u89 u90 u91 u92 u93 u94 u95 u96 u97 u98 : Value} (w wr : World) (L i n c : Nat) (gA cap : Nat) (qs ps : List (Value × Sx)) (B0 : Nat) (lv : Value)
    (hx : RowX w B0 (.slice (some ⟨gA, 0, none⟩) n c) ps) (hn : ps.length = n) (h1 : i < n) (h8 : i < 8) (hkl : Blk wr L 22 #[lv]) (hrow : RowX wr w.heap.size lv qs) (hql : qs.length = i) (hb : Below w.heap.size w wr) (hle : w.heap.size ≤ L)
    (hQ : ∀ (v27 v28 v29 v30 v31 v32 v33 v34 v35 v36 : Value) (wx : World), RunR w wx L qs → Q .normal ⟨#[.slice (some ⟨gA, 0, none⟩) n c, u1, u2, u3, u4, u5, u6, .pointer (some ⟨L, 0, none⟩), .int .i64 (i : Int), u9, u10, u11, u12, u13, u14, u15, u16, u17, u18, u19, u20, u21, u22, u23, u24, u25, u26, v27, v28, v29, v30, v31, v32, v33, v34, v35, v36, u37, u38, u39, u40, u41, u42, u43, u44, u45, u46, u47, u48, u49, u50, u51, u52, u53, u54, u55, u56, u57, u58, u59, u60, u61, u62, u63, u64, u65, u66, u67, u68, u69, u70, u71, u72, u73, u74, u75, u76, u77, u78, u79, u80, u81, u82, u83, u84, u85, u86, u87, u88, u89, u90, u91, u92, u93, u94, u95, u96, u97, u98], []⟩ wx) :
    Code.wp Tryz.prog (regAt 5 Tryz.f4) Q ⟨#[.slice (some ⟨gA, 0, none⟩) n c, u1, u2, u3, u4, u5, u6, .pointer (some ⟨L, 0, none⟩), .int .i64 (i : Int), u9, u10, u11, u12, u13, u14, u15, u16, u17, u18, u19, u20, u21, u22, u23, u24, u25, u26, u27, u28, u29, u30, u31, u32, u33, u34, u35, u36, u37, u38, u39, u40, u41, u42, u43, u44, u45, u46, u47, u48, u49, u50, u51, u52, u53, u54, u55, u56, u57, u58, u59, u60, u61, u62, u63, u64, u65, u66, u67, u68, u69, u70, u71, u72, u73, u74, u75, u76, u77, u78, u79, u80, u81, u82, u83, u84, u85, u86, u87, u88, u89, u90, u91, u92, u93, u94, u95, u96, u97, u98], []⟩ wr := by
  have hi0 : (0 : Int) ≤ (i : Int) := by omega
  have hi1 : (i : Int) < (n : Int) := by omega
  have hi1000 : i ≤ 1000 := by omega
  have HLE := Lib.hid hle
  obtain ⟨la, lc, hlv⟩ := RowX.form hrow
  rw [hql] at hlv
  subst hlv
  obtain ⟨xs, hxs⟩ : ∃ xs, xs = qs.flatMap (fun p => c6 p.1) := ⟨_, rfl⟩
  have hrw := hrow.1
  rw [hql, ← hxs] at hrw
  have HROW := Lib.hid hrw
  have HXL := Lib.hid hrw.1
  have HXQ := Lib.hid hrow.2
  have HXS := Lib.hid (And.intro hxs hql)
  have HLB := Lib.hid hkl
  have HBW := Lib.hid hb
  have hilp : i < ps.length := by rw [hn]; exact h1
  obtain ⟨gA', cap', nA, aA, mA, cA, bA, xA, hve, hgA, hpe, c0, c1, c2, c3, c4, c5⟩ := hx.at i hilp
  have hxv := hx.2 _ (List.getElem_mem hilp)
  obtain ⟨sA, hsA⟩ : ∃ sA, sA = (ps[i]'hilp).2 := ⟨_, rfl⟩
  rw [hpe, ← hsA] at hxv
  rw [← hsA] at c0
  injection hve with ha hx2 hx3
  injection ha with ha
  injection ha with ha _ _
  subst ha
  clear hx2 hx3
  obtain ⟨kA, hkA⟩ : ∃ kA, kA = kx sA := ⟨_, rfl⟩
  rw [← hkA] at hxv c0
  have HCI : Hid (∀ W, Below w.heap.size w W → W.cell? ⟨gA, i * 6, none⟩ = some (.int .i64 kA) ∧ W.cell? ⟨gA, i * 6 + 1, none⟩ = some (.bool nA) ∧ W.cell? ⟨gA, i * 6 + 2, none⟩ = some (.slice aA mA cA) ∧ W.cell? ⟨gA, i * 6 + 3, none⟩ = some (.int .u64 bA) ∧ W.cell? ⟨gA, i * 6 + 4, none⟩ = some (.string xA) ∧ W.cell? ⟨gA, i * 6 + 5, none⟩ = some (.slice none 0 0)) := fun W h => ⟨(h.cell (p := ⟨gA, _, none⟩) hgA).trans c0, (h.cell (p := ⟨gA, _, none⟩) hgA).trans c1, (h.cell (p := ⟨gA, _, none⟩) hgA).trans c2, (h.cell (p := ⟨gA, _, none⟩) hgA).trans c3, (h.cell (p := ⟨gA, _, none⟩) hgA).trans c4, (h.cell (p := ⟨gA, _, none⟩) hgA).trans c5⟩
  have HCL := Lib.hid (fun W (h : Below w.heap.size w W) => clean_two _ _ W (hxv.below h))
  unfold pv at HCL
  obtain ⟨m6, hm6⟩ : ∃ m6, m6 = i + 1 := ⟨_, rfl⟩
  have HM6 := Lib.hid hm6
  have him : (i : Int) < (m6 : Int) := by omega
  have him' : i < m6 := by omega
  clear hrow hkl hb hrw hxs hxv hpe hsA hkA c0 c1 c2 c3 c4 c5 hilp hgA hm6 hx hn h1 h8 hle hql
  change Code.wp _ (Code.region 5 _ true) _ _ _
  refine wp_region_held_drew (S := fun W => Below w.heap.size w W) (by kernel_rfl) HBW.out.drew (fun hHeld => ?_)
  refine wpAnyH_take (i := 1) (v := ?_) rfl (by kernel_rfl) (by kernel_rfl) (by kernel_rfl) (fun c _ _ h => hP c _ _ _ _ h) (Or.inl ⟨by rfl, ?_⟩) (by assumption) ?_
  rotate_left
  · intro w9 hSw
    obtain ⟨i0, i1, i2, i3, i4, i5⟩ := HCI.out w9 hSw
    go_simp
    (try with_reducible rfl)
  try simp only [Act.put, List.getElem_toArray, List.getElem_cons_zero, List.getElem_cons_succ, List.setIfInBounds_toArray, List.set_cons_zero, List.set_cons_succ]
  refine wpAnyH_take (i := 2) (v := ?_) rfl (by kernel_rfl) (by kernel_rfl) (by kernel_rfl) (fun c _ _ h => hP c _ _ _ _ h) (Or.inl ⟨by rfl, ?_⟩) (by assumption) ?_
  rotate_left
  · intro w9 hSw
    obtain ⟨i0, i1, i2, i3, i4, i5⟩ := HCI.out w9 hSw
    go_simp
    (try with_reducible rfl)
  try simp only [Act.put, List.getElem_toArray, List.getElem_cons_zero, List.getElem_cons_succ, List.setIfInBounds_toArray, List.set_cons_zero, List.set_cons_succ]
  refine wpAnyH_take (i := 3) (v := ?_) rfl (by kernel_rfl) (by kernel_rfl) (by kernel_rfl) (fun c _ _ h => hP c _ _ _ _ h) (Or.inl ⟨by rfl, ?_⟩) (by assumption) ?_
  rotate_left
  · intro w9 hSw
    obtain ⟨i0, i1, i2, i3, i4, i5⟩ := HCI.out w9 hSw
    go_simp
    (try with_reducible rfl)
  try simp only [Act.put, List.getElem_toArray, List.getElem_cons_zero, List.getElem_cons_succ, List.setIfInBounds_toArray, List.set_cons_zero, List.set_cons_succ]
  refine wpAnyH_take (i := 4) (v := ?_) rfl (by kernel_rfl) (by kernel_rfl) (by kernel_rfl) (fun c _ _ h => hP c _ _ _ _ h) (Or.inl ⟨by rfl, ?_⟩) (by assumption) ?_
  rotate_left
  · intro w9 hSw
    obtain ⟨i0, i1, i2, i3, i4, i5⟩ := HCI.out w9 hSw
    go_simp
    (try with_reducible rfl)
  try simp only [Act.put, List.getElem_toArray, List.getElem_cons_zero, List.getElem_cons_succ, List.setIfInBounds_toArray, List.set_cons_zero, List.set_cons_succ]
  refine wpAnyH_ready (rs := [0, 5, 7]) (by kernel_rfl) (by simp) ?_
  refine (AllReadyH.cons rfl (fun K hK => ?_) (AllReadyH.cons rfl (fun K hK => ?_) (AllReadyH.cons rfl (fun K hK => ?_) AllReadyH.nil)))
  · have hA := (HLB.out.below (Below.refl wr.heap.size wr).drew HLB.out.lt).cell 0
    replace hA := hA.trans rfl
    go_simp
    refine hK.out _ _ (HBW.out.drew) (fun hHeld => ?_)
    clear hK K
    try simp only [Act.put, List.getElem_toArray, List.getElem_cons_zero, List.getElem_cons_succ, List.setIfInBounds_toArray, List.set_cons_zero, List.set_cons_succ]
    clear hA
    refine wpAnyH_take (i := 6) (v := ?_) rfl (by kernel_rfl) (by kernel_rfl) (by kernel_rfl) (fun c _ _ h => hP c _ _ _ _ h) (Or.inl ⟨by rfl, ?_⟩) (by assumption) ?_
    rotate_left
    · intro w9 hSw
      obtain ⟨i0, i1, i2, i3, i4, i5⟩ := HCI.out w9 hSw
      go_simp
      (try with_reducible rfl)
    try simp only [Act.put, List.getElem_toArray, List.getElem_cons_zero, List.getElem_cons_succ, List.setIfInBounds_toArray, List.set_cons_zero, List.set_cons_succ]
    refine wpAnyH_ready (rs := [5, 7]) (by kernel_rfl) (by simp) ?_
    refine (AllReadyH.cons rfl (fun K hK => ?_) (AllReadyH.cons rfl (fun K hK => ?_) AllReadyH.nil))
    · go_simp
      refine (HCL.out _ ?_).mono ?_
      · exact HBW.out.drew
      rintro e wD ⟨y, s, rfl, hxD, hbD⟩
      have HD := Lib.hid hbD
      replace hxD := hxD.base (Nat.zero_le _)
      obtain ⟨n1, a1, m1, c1, b1, x1, rfl⟩ := hxD.form
      obtain ⟨kd, hkd⟩ : ∃ kd, kd = kx s := ⟨_, rfl⟩
      rw [← hkd] at hxD ⊢
      have HXY := Lib.hid hxD
      clear hbD hxD hkd
      unfold pv
      go_wp2_with fail
      refine hK.out _ _ ((HBW.out.drew.trans (HD.out.mono HBW.out.drew.size))) (fun hHeld => ?_)
      clear hK K
      try simp only [Act.put, List.getElem_toArray, List.getElem_cons_zero, List.getElem_cons_succ, List.setIfInBounds_toArray, List.set_cons_zero, List.set_cons_succ]
      refine wpAnyH_ready (rs := [7]) (by kernel_rfl) (by simp) ?_
      refine (AllReadyH.cons rfl (fun K hK => ?_) AllReadyH.nil)
      go_simp
      refine hK.out _ _ (((HBW.out.drew.trans (HD.out.mono HBW.out.drew.size)).alloc (HBW.out.drew.trans (HD.out.mono HBW.out.drew.size)).size (.cells #[.int .i64 0, .bool false, .slice none 0 0, .int .u64 0, .string ⟨#[]⟩, .slice none 0 0] 33))) (fun hHeld => ?_)
      clear hK K
      try simp only [Act.put, List.getElem_toArray, List.getElem_cons_zero, List.getElem_cons_succ, List.setIfInBounds_toArray, List.set_cons_zero, List.set_cons_succ]
      have HXY := Lib.hid (HXY.out.below ((Below.refl wD.heap.size wD).alloc (Nat.le_refl _) (.cells #[.int .i64 0, .bool false, .slice none 0 0, .int .u64 0, .string ⟨#[]⟩, .slice none 0 0] 33)))
      have HZ0 : Hid (Blk (wD.alloc (.cells #[.int .i64 0, .bool false, .slice none 0 0, .int .u64 0, .string ⟨#[]⟩, .slice none 0 0] 33)) wD.heap.size 33 #[.int .i64 0, .bool false, .slice none 0 0, .int .u64 0, .string ⟨#[]⟩, .slice none 0 0]) := Blk.new _ _ _
      refine wpAnyH_ready (rs := [8]) (by kernel_rfl) (by simp) ?_
      refine (AllReadyH.cons rfl (fun K hK => ?_) AllReadyH.nil)
      rw [if_pos (by rfl)]
      have HRC := Lib.hid (own_below HROW.out (((Below.refl wr.heap.size wr).drew.trans (HD.out.mono (Below.refl wr.heap.size wr).drew.size)).alloc ((Below.refl wr.heap.size wr).drew.trans (HD.out.mono (Below.refl wr.heap.size wr).drew.size)).size (.cells #[.int .i64 0, .bool false, .slice none 0 0, .int .u64 0, .string ⟨#[]⟩, .slice none 0 0] 33)))
      have HLC := Lib.hid (HLB.out.below (((Below.refl wr.heap.size wr).drew.trans (HD.out.mono (Below.refl wr.heap.size wr).drew.size)).alloc ((Below.refl wr.heap.size wr).drew.trans (HD.out.mono (Below.refl wr.heap.size wr).drew.size)).size (.cells #[.int .i64 0, .bool false, .slice none 0 0, .int .u64 0, .string ⟨#[]⟩, .slice none 0 0] 33)) HLB.out.lt)
      refine wp_append_zero _ _ _ rfl w.heap.size _ i xs HRC.out rfl _ HZ0.out rfl hi1000 ((HBW.out.drew.trans (HD.out.mono HBW.out.drew.size)).alloc (HBW.out.drew.trans (HD.out.mono HBW.out.drew.size)).size (.cells #[.int .i64 0, .bool false, .slice none 0 0, .int .u64 0, .string ⟨#[]⟩, .slice none 0 0] 33)).size ?_
      intro v6 w6 hr6 hb6 hg6
      obtain ⟨g6, c6', hv6, _⟩ := own_last hr6 HXL.out
      rw [← HM6.out] at hv6
      subst hv6
      have HR6 := Lib.hid hr6
      have HB6 := Lib.hid hb6
      have HL6 := Lib.hid (HLC.out.grown hg6 (fun e => own_ne_blk HRC.out HLC.out (by decide) _ e.symm rfl))
      have HQ6 := Lib.hid (fun p hp => ((HXQ.out p hp).below (((Below.refl wr.heap.size wr).drew.trans (HD.out.mono (Below.refl wr.heap.size wr).drew.size)).alloc ((Below.refl wr.heap.size wr).drew.trans (HD.out.mono (Below.refl wr.heap.size wr).drew.size)).size (.cells #[.int .i64 0, .bool false, .slice none 0 0, .int .u64 0, .string ⟨#[]⟩, .slice none 0 0] 33))).grown HRC.out (by decide) hg6)
      have HXY6 := Lib.hid (HXY.out.grown HRC.out (by decide) hg6)
      clear hr6 hb6 hg6
      refine hK.out _ _ ((((HBW.out.drew.trans (HD.out.mono HBW.out.drew.size)).alloc (HBW.out.drew.trans (HD.out.mono HBW.out.drew.size)).size (.cells #[.int .i64 0, .bool false, .slice none 0 0, .int .u64 0, .string ⟨#[]⟩, .slice none 0 0] 33)).trans HB6.out)) (fun hHeld => ?_)
      clear hK K
      try simp only [Act.put, List.getElem_toArray, List.getElem_cons_zero, List.getElem_cons_succ, List.setIfInBounds_toArray, List.set_cons_zero, List.set_cons_succ]
      refine wpAnyH_take (i := 9) (v := ?_) rfl (by kernel_rfl) (by kernel_rfl) (by kernel_rfl) (fun c _ _ h => hP c _ _ _ _ h) (Or.inl ⟨by rfl, ?_⟩) (by assumption) ?_
      rotate_left
      · intro w9 hSw
        obtain ⟨i0, i1, i2, i3, i4, i5⟩ := HCI.out w9 hSw
        go_simp
        (try with_reducible rfl)
      try simp only [Act.put, List.getElem_toArray, List.getElem_cons_zero, List.getElem_cons_succ, List.setIfInBounds_toArray, List.set_cons_zero, List.set_cons_succ]
      obtain ⟨_, _, hv7, hg7, hl7, ⟨_, hk7⟩, ⟨y0, y1, y2, y3, y4, y5⟩, z0, z1, z2, z3, z4, z5⟩ := own_last HR6.out HXL.out
      injection hv7 with e1 e2 e3
      injection e1 with e1
      injection e1 with e1 _ _
      subst e1 e3
      have l0 := (HL6.out.cell 0).trans rfl
      have l1 := HL6.out.frozen 0
      have n1 : ¬ L = g6 := fun e => own_ne_blk HR6.out HL6.out (by decide) _ rfl e.symm
      have n2 : ¬ g6 = L := fun e => n1 e.symm
      have HG7 := Lib.hid hg7
      clear hg7 hl7 hk7 e2
      refine wpAnyH_ready (rs := [10, 11]) (by kernel_rfl) (by simp) ?_
      refine (AllReadyH.cons rfl (fun K hK => ?_) (AllReadyH.cons rfl (fun K hK => ?_) AllReadyH.nil))
      · go_simp
        refine hK.out _ _ (tail_below (((HBW.out.drew.trans (HD.out.mono HBW.out.drew.size)).alloc (HBW.out.drew.trans (HD.out.mono HBW.out.drew.size)).size (.cells #[.int .i64 0, .bool false, .slice none 0 0, .int .u64 0, .string ⟨#[]⟩, .slice none 0 0] 33)).trans HB6.out) HG7.out) (fun hHeld => ?_)
        clear hK K
        try simp only [Act.put, List.getElem_toArray, List.getElem_cons_zero, List.getElem_cons_succ, List.setIfInBounds_toArray, List.set_cons_zero, List.set_cons_succ]
        refine wpAnyH_ready (rs := [11]) (by kernel_rfl) (by simp) ?_
        refine (AllReadyH.cons rfl (fun K hK => ?_) AllReadyH.nil)
        go_simp
        refine hK.out _ _ ((tail_below (((HBW.out.drew.trans (HD.out.mono HBW.out.drew.size)).alloc (HBW.out.drew.trans (HD.out.mono HBW.out.drew.size)).size (.cells #[.int .i64 0, .bool false, .slice none 0 0, .int .u64 0, .string ⟨#[]⟩, .slice none 0 0] 33)).trans HB6.out) HG7.out).setCell (p := ⟨L, 0, none⟩) HLE.out _) (fun hHeld => ?_)
        clear hK K
        try simp only [Act.put, List.getElem_toArray, List.getElem_cons_zero, List.getElem_cons_succ, List.setIfInBounds_toArray, List.set_cons_zero, List.set_cons_succ]
        refine wpAnyH_done (by kernel_rfl) ?_ _
        have HRR := (run_leaf HM6.out HR6.out HXL.out HQ6.out HXY6.out HL6.out (((HBW.out.drew.trans (HD.out.mono HBW.out.drew.size)).alloc (HBW.out.drew.trans (HD.out.mono HBW.out.drew.size)).size (.cells #[.int .i64 0, .bool false, .slice none 0 0, .int .u64 0, .string ⟨#[]⟩, .slice none 0 0] 33)).trans HB6.out) HLE.out HG7.out HXS.out)
        exact hQ _ _ _ _ _ _ _ _ _ _ _ HRR
      · go_simp
        refine hK.out _ _ (((((HBW.out.drew.trans (HD.out.mono HBW.out.drew.size)).alloc (HBW.out.drew.trans (HD.out.mono HBW.out.drew.size)).size (.cells #[.int .i64 0, .bool false, .slice none 0 0, .int .u64 0, .string ⟨#[]⟩, .slice none 0 0] 33)).trans HB6.out)).setCell (p := ⟨L, 0, none⟩) HLE.out _) (fun hHeld => ?_)
        clear hK K
        try simp only [Act.put, List.getElem_toArray, List.getElem_cons_zero, List.getElem_cons_succ, List.setIfInBounds_toArray, List.set_cons_zero, List.set_cons_succ]
        refine wpAnyH_ready (rs := [10]) (by kernel_rfl) (by simp) ?_
        refine (AllReadyH.cons rfl (fun K hK => ?_) AllReadyH.nil)
        go_simp
        refine hK.out _ _ (tail_below (((((HBW.out.drew.trans (HD.out.mono HBW.out.drew.size)).alloc (HBW.out.drew.trans (HD.out.mono HBW.out.drew.size)).size (.cells #[.int .i64 0, .bool false, .slice none 0 0, .int .u64 0, .string ⟨#[]⟩, .slice none 0 0] 33)).trans HB6.out)).setCell (p := ⟨L, 0, none⟩) HLE.out _) HG7.out) (fun hHeld => ?_)
        clear hK K
        try simp only [Act.put, List.getElem_toArray, List.getElem_cons_zero, List.getElem_cons_succ, List.setIfInBounds_toArray, List.set_cons_zero, List.set_cons_succ]
        refine wpAnyH_done (by kernel_rfl) ?_ _
        have HRR := (run_leaf2 HM6.out HR6.out HXL.out HQ6.out HXY6.out HL6.out (((HBW.out.drew.trans (HD.out.mono HBW.out.drew.size)).alloc (HBW.out.drew.trans (HD.out.mono HBW.out.drew.size)).size (.cells #[.int .i64 0, .bool false, .slice none 0 0, .int .u64 0, .string ⟨#[]⟩, .slice none 0 0] 33)).trans HB6.out) HLE.out HG7.out HXS.out)
        exact hQ _ _ _ _ _ _ _ _ _ _ _ HRR
    · go_simp
      refine hK.out _ _ ((HBW.out.drew.alloc HBW.out.drew.size (.cells #[.int .i64 0, .bool false, .slice none 0 0, .int .u64 0, .string ⟨#[]⟩, .slice none 0 0] 33))) (fun hHeld => ?_)
      clear hK K
      try simp only [Act.put, List.getElem_toArray, List.getElem_cons_zero, List.getElem_cons_succ, List.setIfInBounds_toArray, List.set_cons_zero, List.set_cons_succ]
      have HZ0 : Hid (Blk (wr.drew.alloc (.cells #[.int .i64 0, .bool false, .slice none 0 0, .int .u64 0, .string ⟨#[]⟩, .slice none 0 0] 33)) wr.drew.heap.size 33 #[.int .i64 0, .bool false, .slice none 0 0, .int .u64 0, .string ⟨#[]⟩, .slice none 0 0]) := Blk.new _ _ _
      refine wpAnyH_ready (rs := [5]) (by kernel_rfl) (by simp) ?_
      refine (AllReadyH.cons rfl (fun K hK => ?_) AllReadyH.nil)
      go_simp
      refine (HCL.out _ ?_).mono ?_
      · exact (HBW.out.drew.alloc HBW.out.drew.size (.cells #[.int .i64 0, .bool false, .slice none 0 0, .int .u64 0, .string ⟨#[]⟩, .slice none 0 0] 33))
      rintro e wD ⟨y, s, rfl, hxD, hbD⟩
      have HD := Lib.hid hbD
      replace hxD := hxD.base (Nat.zero_le _)
      obtain ⟨n1, a1, m1, c1, b1, x1, rfl⟩ := hxD.form
      obtain ⟨kd, hkd⟩ : ∃ kd, kd = kx s := ⟨_, rfl⟩
      rw [← hkd] at hxD ⊢
      have HXY := Lib.hid hxD
      have HZ1 : Hid (Blk wD wr.drew.heap.size 33 #[.int .i64 0, .bool false, .slice none 0 0, .int .u64 0, .string ⟨#[]⟩, .slice none 0 0]) := HZ0.out.below hbD HZ0.out.lt
      clear hbD hxD hkd
      unfold pv
      go_wp2_with fail
      refine hK.out _ _ (((HBW.out.drew.alloc HBW.out.drew.size (.cells #[.int .i64 0, .bool false, .slice none 0 0, .int .u64 0, .string ⟨#[]⟩, .slice none 0 0] 33)).trans (HD.out.mono (HBW.out.drew.alloc HBW.out.drew.size (.cells #[.int .i64 0, .bool false, .slice none 0 0, .int .u64 0, .string ⟨#[]⟩, .slice none 0 0] 33)).size))) (fun hHeld => ?_)
      clear hK K
      try simp only [Act.put, List.getElem_toArray, List.getElem_cons_zero, List.getElem_cons_succ, List.setIfInBounds_toArray, List.set_cons_zero, List.set_cons_succ]
      refine wpAnyH_ready (rs := [8]) (by kernel_rfl) (by simp) ?_
      refine (AllReadyH.cons rfl (fun K hK => ?_) AllReadyH.nil)
      rw [if_pos (by rfl)]
      have HRC := Lib.hid (own_below HROW.out (((Below.refl wr.heap.size wr).drew.alloc (Below.refl wr.heap.size wr).drew.size (.cells #[.int .i64 0, .bool false, .slice none 0 0, .int .u64 0, .string ⟨#[]⟩, .slice none 0 0] 33)).trans (HD.out.mono ((Below.refl wr.heap.size wr).drew.alloc (Below.refl wr.heap.size wr).drew.size (.cells #[.int .i64 0, .bool false, .slice none 0 0, .int .u64 0, .string ⟨#[]⟩, .slice none 0 0] 33)).size)))
      have HLC := Lib.hid (HLB.out.below (((Below.refl wr.heap.size wr).drew.alloc (Below.refl wr.heap.size wr).drew.size (.cells #[.int .i64 0, .bool false, .slice none 0 0, .int .u64 0, .string ⟨#[]⟩, .slice none 0 0] 33)).trans (HD.out.mono ((Below.refl wr.heap.size wr).drew.alloc (Below.refl wr.heap.size wr).drew.size (.cells #[.int .i64 0, .bool false, .slice none 0 0, .int .u64 0, .string ⟨#[]⟩, .slice none 0 0] 33)).size)) HLB.out.lt)
      refine wp_append_zero _ _ _ rfl w.heap.size _ i xs HRC.out rfl _ HZ1.out rfl hi1000 ((HBW.out.drew.alloc HBW.out.drew.size (.cells #[.int .i64 0, .bool false, .slice none 0 0, .int .u64 0, .string ⟨#[]⟩, .slice none 0 0] 33)).trans (HD.out.mono (HBW.out.drew.alloc HBW.out.drew.size (.cells #[.int .i64 0, .bool false, .slice none 0 0, .int .u64 0, .string ⟨#[]⟩, .slice none 0 0] 33)).size)).size ?_
      intro v6 w6 hr6 hb6 hg6
      obtain ⟨g6, c6', hv6, _⟩ := own_last hr6 HXL.out
      rw [← HM6.out] at hv6
      subst hv6
      have HR6 := Lib.hid hr6
      have HB6 := Lib.hid hb6
      have HL6 := Lib.hid (HLC.out.grown hg6 (fun e => own_ne_blk HRC.out HLC.out (by decide) _ e.symm rfl))
      have HQ6 := Lib.hid (fun p hp => ((HXQ.out p hp).below (((Below.refl wr.heap.size wr).drew.alloc (Below.refl wr.heap.size wr).drew.size (.cells #[.int .i64 0, .bool false, .slice none 0 0, .int .u64 0, .string ⟨#[]⟩, .slice none 0 0] 33)).trans (HD.out.mono ((Below.refl wr.heap.size wr).drew.alloc (Below.refl wr.heap.size wr).drew.size (.cells #[.int .i64 0, .bool false, .slice none 0 0, .int .u64 0, .string ⟨#[]⟩, .slice none 0 0] 33)).size))).grown HRC.out (by decide) hg6)
      have HXY6 := Lib.hid (HXY.out.grown HRC.out (by decide) hg6)
      clear hr6 hb6 hg6
      refine hK.out _ _ ((((HBW.out.drew.alloc HBW.out.drew.size (.cells #[.int .i64 0, .bool false, .slice none 0 0, .int .u64 0, .string ⟨#[]⟩, .slice none 0 0] 33)).trans (HD.out.mono (HBW.out.drew.alloc HBW.out.drew.size (.cells #[.int .i64 0, .bool false, .slice none 0 0, .int .u64 0, .string ⟨#[]⟩, .slice none 0 0] 33)).size)).trans HB6.out)) (fun hHeld => ?_)
      clear hK K
      try simp only [Act.put, List.getElem_toArray, List.getElem_cons_zero, List.getElem_cons_succ, List.setIfInBounds_toArray, List.set_cons_zero, List.set_cons_succ]
      refine wpAnyH_take (i := 9) (v := ?_) rfl (by kernel_rfl) (by kernel_rfl) (by kernel_rfl) (fun c _ _ h => hP c _ _ _ _ h) (Or.inl ⟨by rfl, ?_⟩) (by assumption) ?_
      rotate_left
      · intro w9 hSw
        obtain ⟨i0, i1, i2, i3, i4, i5⟩ := HCI.out w9 hSw
        go_simp
        (try with_reducible rfl)
      try simp only [Act.put, List.getElem_toArray, List.getElem_cons_zero, List.getElem_cons_succ, List.setIfInBounds_toArray, List.set_cons_zero, List.set_cons_succ]
      obtain ⟨_, _, hv7, hg7, hl7, ⟨_, hk7⟩, ⟨y0, y1, y2, y3, y4, y5⟩, z0, z1, z2, z3, z4, z5⟩ := own_last HR6.out HXL.out
      injection hv7 with e1 e2 e3
      injection e1 with e1
      injection e1 with e1 _ _
      subst e1 e3
      have l0 := (HL6.out.cell 0).trans rfl
      have l1 := HL6.out.frozen 0
      have n1 : ¬ L = g6 := fun e => own_ne_blk HR6.out HL6.out (by decide) _ rfl e.symm
      have n2 : ¬ g6 = L := fun e => n1 e.symm
      have HG7 := Lib.hid hg7
      clear hg7 hl7 hk7 e2
      refine wpAnyH_ready (rs := [10, 11]) (by kernel_rfl) (by simp) ?_
      refine (AllReadyH.cons rfl (fun K hK => ?_) (AllReadyH.cons rfl (fun K hK => ?_) AllReadyH.nil))
      · go_simp
        refine hK.out _ _ (tail_below (((HBW.out.drew.alloc HBW.out.drew.size (.cells #[.int .i64 0, .bool false, .slice none 0 0, .int .u64 0, .string ⟨#[]⟩, .slice none 0 0] 33)).trans (HD.out.mono (HBW.out.drew.alloc HBW.out.drew.size (.cells #[.int .i64 0, .bool false, .slice none 0 0, .int .u64 0, .string ⟨#[]⟩, .slice none 0 0] 33)).size)).trans HB6.out) HG7.out) (fun hHeld => ?_)
        clear hK K
        try simp only [Act.put, List.getElem_toArray, List.getElem_cons_zero, List.getElem_cons_succ, List.setIfInBounds_toArray, List.set_cons_zero, List.set_cons_succ]
        refine wpAnyH_ready (rs := [11]) (by kernel_rfl) (by simp) ?_
        refine (AllReadyH.cons rfl (fun K hK => ?_) AllReadyH.nil)
        go_simp
        refine hK.out _ _ ((tail_below (((HBW.out.drew.alloc HBW.out.drew.size (.cells #[.int .i64 0, .bool false, .slice none 0 0, .int .u64 0, .string ⟨#[]⟩, .slice none 0 0] 33)).trans (HD.out.mono (HBW.out.drew.alloc HBW.out.drew.size (.cells #[.int .i64 0, .bool false, .slice none 0 0, .int .u64 0, .string ⟨#[]⟩, .slice none 0 0] 33)).size)).trans HB6.out) HG7.out).setCell (p := ⟨L, 0, none⟩) HLE.out _) (fun hHeld => ?_)
        clear hK K
        try simp only [Act.put, List.getElem_toArray, List.getElem_cons_zero, List.getElem_cons_succ, List.setIfInBounds_toArray, List.set_cons_zero, List.set_cons_succ]
        refine wpAnyH_done (by kernel_rfl) ?_ _
        have HRR := (run_leaf HM6.out HR6.out HXL.out HQ6.out HXY6.out HL6.out (((HBW.out.drew.alloc HBW.out.drew.size (.cells #[.int .i64 0, .bool false, .slice none 0 0, .int .u64 0, .string ⟨#[]⟩, .slice none 0 0] 33)).trans (HD.out.mono (HBW.out.drew.alloc HBW.out.drew.size (.cells #[.int .i64 0, .bool false, .slice none 0 0, .int .u64 0, .string ⟨#[]⟩, .slice none 0 0] 33)).size)).trans HB6.out) HLE.out HG7.out HXS.out)
        exact hQ _ _ _ _ _ _ _ _ _ _ _ HRR
      · go_simp
        refine hK.out _ _ (((((HBW.out.drew.alloc HBW.out.drew.size (.cells #[.int .i64 0, .bool false, .slice none 0 0, .int .u64 0, .string ⟨#[]⟩, .slice none 0 0] 33)).trans (HD.out.mono (HBW.out.drew.alloc HBW.out.drew.size (.cells #[.int .i64 0, .bool false, .slice none 0 0, .int .u64 0, .string ⟨#[]⟩, .slice none 0 0] 33)).size)).trans HB6.out)).setCell (p := ⟨L, 0, none⟩) HLE.out _) (fun hHeld => ?_)
        clear hK K
        try simp only [Act.put, List.getElem_toArray, List.getElem_cons_zero, List.getElem_cons_succ, List.setIfInBounds_toArray, List.set_cons_zero, List.set_cons_succ]
        refine wpAnyH_ready (rs := [10]) (by kernel_rfl) (by simp) ?_
        refine (AllReadyH.cons rfl (fun K hK => ?_) AllReadyH.nil)
        go_simp
        refine hK.out _ _ (tail_below (((((HBW.out.drew.alloc HBW.out.drew.size (.cells #[.int .i64 0, .bool false, .slice none 0 0, .int .u64 0, .string ⟨#[]⟩, .slice none 0 0] 33)).trans (HD.out.mono (HBW.out.drew.alloc HBW.out.drew.size (.cells #[.int .i64 0, .bool false, .slice none 0 0, .int .u64 0, .string ⟨#[]⟩, .slice none 0 0] 33)).size)).trans HB6.out)).setCell (p := ⟨L, 0, none⟩) HLE.out _) HG7.out) (fun hHeld => ?_)
        clear hK K
        try simp only [Act.put, List.getElem_toArray, List.getElem_cons_zero, List.getElem_cons_succ, List.setIfInBounds_toArray, List.set_cons_zero, List.set_cons_succ]
        refine wpAnyH_done (by kernel_rfl) ?_ _
        have HRR := (run_leaf2 HM6.out HR6.out HXL.out HQ6.out HXY6.out HL6.out (((HBW.out.drew.alloc HBW.out.drew.size (.cells #[.int .i64 0, .bool false, .slice none 0 0, .int .u64 0, .string ⟨#[]⟩, .slice none 0 0] 33)).trans (HD.out.mono (HBW.out.drew.alloc HBW.out.drew.size (.cells #[.int .i64 0, .bool false, .slice none 0 0, .int .u64 0, .string ⟨#[]⟩, .slice none 0 0] 33)).size)).trans HB6.out) HLE.out HG7.out HXS.out)
        exact hQ _ _ _ _ _ _ _ _ _ _ _ HRR
  · go_simp
    refine (HCL.out _ ?_).mono ?_
    · exact HBW.out.drew
    rintro e wD ⟨y, s, rfl, hxD, hbD⟩
    have HD := Lib.hid hbD
    replace hxD := hxD.base (Nat.zero_le _)
    obtain ⟨n1, a1, m1, c1, b1, x1, rfl⟩ := hxD.form
    obtain ⟨kd, hkd⟩ : ∃ kd, kd = kx s := ⟨_, rfl⟩
    rw [← hkd] at hxD ⊢
    have HXY := Lib.hid hxD
    clear hbD hxD hkd
    unfold pv
    go_wp2_with fail
    refine hK.out _ _ ((HBW.out.drew.trans (HD.out.mono HBW.out.drew.size))) (fun hHeld => ?_)
    clear hK K
    try simp only [Act.put, List.getElem_toArray, List.getElem_cons_zero, List.getElem_cons_succ, List.setIfInBounds_toArray, List.set_cons_zero, List.set_cons_succ]
    refine wpAnyH_ready (rs := [0, 7]) (by kernel_rfl) (by simp) ?_
    refine (AllReadyH.cons rfl (fun K hK => ?_) (AllReadyH.cons rfl (fun K hK => ?_) AllReadyH.nil))
    · have hA := (HLB.out.below ((Below.refl wr.heap.size wr).drew.trans (HD.out.mono (Below.refl wr.heap.size wr).drew.size)) HLB.out.lt).cell 0
      replace hA := hA.trans rfl
      go_simp
      refine hK.out _ _ ((HBW.out.drew.trans (HD.out.mono HBW.out.drew.size))) (fun hHeld => ?_)
      clear hK K
      try simp only [Act.put, List.getElem_toArray, List.getElem_cons_zero, List.getElem_cons_succ, List.setIfInBounds_toArray, List.set_cons_zero, List.set_cons_succ]
      clear hA
      refine wpAnyH_take (i := 6) (v := ?_) rfl (by kernel_rfl) (by kernel_rfl) (by kernel_rfl) (fun c _ _ h => hP c _ _ _ _ h) (Or.inl ⟨by rfl, ?_⟩) (by assumption) ?_
      rotate_left
      · intro w9 hSw
        obtain ⟨i0, i1, i2, i3, i4, i5⟩ := HCI.out w9 hSw
        go_simp
        (try with_reducible rfl)
      try simp only [Act.put, List.getElem_toArray, List.getElem_cons_zero, List.getElem_cons_succ, List.setIfInBounds_toArray, List.set_cons_zero, List.set_cons_succ]
      refine wpAnyH_ready (rs := [7]) (by kernel_rfl) (by simp) ?_
      refine (AllReadyH.cons rfl (fun K hK => ?_) AllReadyH.nil)
      go_simp
      refine hK.out _ _ (((HBW.out.drew.trans (HD.out.mono HBW.out.drew.size)).alloc (HBW.out.drew.trans (HD.out.mono HBW.out.drew.size)).size (.cells #[.int .i64 0, .bool false, .slice none 0 0, .int .u64 0, .string ⟨#[]⟩, .slice none 0 0] 33))) (fun hHeld => ?_)
      clear hK K
      try simp only [Act.put, List.getElem_toArray, List.getElem_cons_zero, List.getElem_cons_succ, List.setIfInBounds_toArray, List.set_cons_zero, List.set_cons_succ]
      have HXY := Lib.hid (HXY.out.below ((Below.refl wD.heap.size wD).alloc (Nat.le_refl _) (.cells #[.int .i64 0, .bool false, .slice none 0 0, .int .u64 0, .string ⟨#[]⟩, .slice none 0 0] 33)))
      have HZ0 : Hid (Blk (wD.alloc (.cells #[.int .i64 0, .bool false, .slice none 0 0, .int .u64 0, .string ⟨#[]⟩, .slice none 0 0] 33)) wD.heap.size 33 #[.int .i64 0, .bool false, .slice none 0 0, .int .u64 0, .string ⟨#[]⟩, .slice none 0 0]) := Blk.new _ _ _
      refine wpAnyH_ready (rs := [8]) (by kernel_rfl) (by simp) ?_
      refine (AllReadyH.cons rfl (fun K hK => ?_) AllReadyH.nil)
      rw [if_pos (by rfl)]
      have HRC := Lib.hid (own_below HROW.out (((Below.refl wr.heap.size wr).drew.trans (HD.out.mono (Below.refl wr.heap.size wr).drew.size)).alloc ((Below.refl wr.heap.size wr).drew.trans (HD.out.mono (Below.refl wr.heap.size wr).drew.size)).size (.cells #[.int .i64 0, .bool false, .slice none 0 0, .int .u64 0, .string ⟨#[]⟩, .slice none 0 0] 33)))
      have HLC := Lib.hid (HLB.out.below (((Below.refl wr.heap.size wr).drew.trans (HD.out.mono (Below.refl wr.heap.size wr).drew.size)).alloc ((Below.refl wr.heap.size wr).drew.trans (HD.out.mono (Below.refl wr.heap.size wr).drew.size)).size (.cells #[.int .i64 0, .bool false, .slice none 0 0, .int .u64 0, .string ⟨#[]⟩, .slice none 0 0] 33)) HLB.out.lt)
      refine wp_append_zero _ _ _ rfl w.heap.size _ i xs HRC.out rfl _ HZ0.out rfl hi1000 ((HBW.out.drew.trans (HD.out.mono HBW.out.drew.size)).alloc (HBW.out.drew.trans (HD.out.mono HBW.out.drew.size)).size (.cells #[.int .i64 0, .bool false, .slice none 0 0, .int .u64 0, .string ⟨#[]⟩, .slice none 0 0] 33)).size ?_
      intro v6 w6 hr6 hb6 hg6
      obtain ⟨g6, c6', hv6, _⟩ := own_last hr6 HXL.out
      rw [← HM6.out] at hv6
      subst hv6
      have HR6 := Lib.hid hr6
      have HB6 := Lib.hid hb6
      have HL6 := Lib.hid (HLC.out.grown hg6 (fun e => own_ne_blk HRC.out HLC.out (by decide) _ e.symm rfl))
      have HQ6 := Lib.hid (fun p hp => ((HXQ.out p hp).below (((Below.refl wr.heap.size wr).drew.trans (HD.out.mono (Below.refl wr.heap.size wr).drew.size)).alloc ((Below.refl wr.heap.size wr).drew.trans (HD.out.mono (Below.refl wr.heap.size wr).drew.size)).size (.cells #[.int .i64 0, .bool false, .slice none 0 0, .int .u64 0, .string ⟨#[]⟩, .slice none 0 0] 33))).grown HRC.out (by decide) hg6)
      have HXY6 := Lib.hid (HXY.out.grown HRC.out (by decide) hg6)
      clear hr6 hb6 hg6
      refine hK.out _ _ ((((HBW.out.drew.trans (HD.out.mono HBW.out.drew.size)).alloc (HBW.out.drew.trans (HD.out.mono HBW.out.drew.size)).size (.cells #[.int .i64 0, .bool false, .slice none 0 0, .int .u64 0, .string ⟨#[]⟩, .slice none 0 0] 33)).trans HB6.out)) (fun hHeld => ?_)
      clear hK K
      try simp only [Act.put, List.getElem_toArray, List.getElem_cons_zero, List.getElem_cons_succ, List.setIfInBounds_toArray, List.set_cons_zero, List.set_cons_succ]
      refine wpAnyH_take (i := 9) (v := ?_) rfl (by kernel_rfl) (by kernel_rfl) (by kernel_rfl) (fun c _ _ h => hP c _ _ _ _ h) (Or.inl ⟨by rfl, ?_⟩) (by assumption) ?_
      rotate_left
      · intro w9 hSw
        obtain ⟨i0, i1, i2, i3, i4, i5⟩ := HCI.out w9 hSw
        go_simp
        (try with_reducible rfl)
      try simp only [Act.put, List.getElem_toArray, List.getElem_cons_zero, List.getElem_cons_succ, List.setIfInBounds_toArray, List.set_cons_zero, List.set_cons_succ]
      obtain ⟨_, _, hv7, hg7, hl7, ⟨_, hk7⟩, ⟨y0, y1, y2, y3, y4, y5⟩, z0, z1, z2, z3, z4, z5⟩ := own_last HR6.out HXL.out
      injection hv7 with e1 e2 e3
      injection e1 with e1
      injection e1 with e1 _ _
      subst e1 e3
      have l0 := (HL6.out.cell 0).trans rfl
      have l1 := HL6.out.frozen 0
      have n1 : ¬ L = g6 := fun e => own_ne_blk HR6.out HL6.out (by decide) _ rfl e.symm
      have n2 : ¬ g6 = L := fun e => n1 e.symm
      have HG7 := Lib.hid hg7
      clear hg7 hl7 hk7 e2
      refine wpAnyH_ready (rs := [10, 11]) (by kernel_rfl) (by simp) ?_
      refine (AllReadyH.cons rfl (fun K hK => ?_) (AllReadyH.cons rfl (fun K hK => ?_) AllReadyH.nil))
      · go_simp
        refine hK.out _ _ (tail_below (((HBW.out.drew.trans (HD.out.mono HBW.out.drew.size)).alloc (HBW.out.drew.trans (HD.out.mono HBW.out.drew.size)).size (.cells #[.int .i64 0, .bool false, .slice none 0 0, .int .u64 0, .string ⟨#[]⟩, .slice none 0 0] 33)).trans HB6.out) HG7.out) (fun hHeld => ?_)
        clear hK K
        try simp only [Act.put, List.getElem_toArray, List.getElem_cons_zero, List.getElem_cons_succ, List.setIfInBounds_toArray, List.set_cons_zero, List.set_cons_succ]
        refine wpAnyH_ready (rs := [11]) (by kernel_rfl) (by simp) ?_
        refine (AllReadyH.cons rfl (fun K hK => ?_) AllReadyH.nil)
        go_simp
        refine hK.out _ _ ((tail_below (((HBW.out.drew.trans (HD.out.mono HBW.out.drew.size)).alloc (HBW.out.drew.trans (HD.out.mono HBW.out.drew.size)).size (.cells #[.int .i64 0, .bool false, .slice none 0 0, .int .u64 0, .string ⟨#[]⟩, .slice none 0 0] 33)).trans HB6.out) HG7.out).setCell (p := ⟨L, 0, none⟩) HLE.out _) (fun hHeld => ?_)
        clear hK K
        try simp only [Act.put, List.getElem_toArray, List.getElem_cons_zero, List.getElem_cons_succ, List.setIfInBounds_toArray, List.set_cons_zero, List.set_cons_succ]
        refine wpAnyH_done (by kernel_rfl) ?_ _
        have HRR := (run_leaf HM6.out HR6.out HXL.out HQ6.out HXY6.out HL6.out (((HBW.out.drew.trans (HD.out.mono HBW.out.drew.size)).alloc (HBW.out.drew.trans (HD.out.mono HBW.out.drew.size)).size (.cells #[.int .i64 0, .bool false, .slice none 0 0, .int .u64 0, .string ⟨#[]⟩, .slice none 0 0] 33)).trans HB6.out) HLE.out HG7.out HXS.out)
        exact hQ _ _ _ _ _ _ _ _ _ _ _ HRR
      · go_simp
        refine hK.out _ _ (((((HBW.out.drew.trans (HD.out.mono HBW.out.drew.size)).alloc (HBW.out.drew.trans (HD.out.mono HBW.out.drew.size)).size (.cells #[.int .i64 0, .bool false, .slice none 0 0, .int .u64 0, .string ⟨#[]⟩, .slice none 0 0] 33)).trans HB6.out)).setCell (p := ⟨L, 0, none⟩) HLE.out _) (fun hHeld => ?_)
        clear hK K
        try simp only [Act.put, List.getElem_toArray, List.getElem_cons_zero, List.getElem_cons_succ, List.setIfInBounds_toArray, List.set_cons_zero, List.set_cons_succ]
        refine wpAnyH_ready (rs := [10]) (by kernel_rfl) (by simp) ?_
        refine (AllReadyH.cons rfl (fun K hK => ?_) AllReadyH.nil)
        go_simp
        refine hK.out _ _ (tail_below (((((HBW.out.drew.trans (HD.out.mono HBW.out.drew.size)).alloc (HBW.out.drew.trans (HD.out.mono HBW.out.drew.size)).size (.cells #[.int .i64 0, .bool false, .slice none 0 0, .int .u64 0, .string ⟨#[]⟩, .slice none 0 0] 33)).trans HB6.out)).setCell (p := ⟨L, 0, none⟩) HLE.out _) HG7.out) (fun hHeld => ?_)
        clear hK K
        try simp only [Act.put, List.getElem_toArray, List.getElem_cons_zero, List.getElem_cons_succ, List.setIfInBounds_toArray, List.set_cons_zero, List.set_cons_succ]
        refine wpAnyH_done (by kernel_rfl) ?_ _
        have HRR := (run_leaf2 HM6.out HR6.out HXL.out HQ6.out HXY6.out HL6.out (((HBW.out.drew.trans (HD.out.mono HBW.out.drew.size)).alloc (HBW.out.drew.trans (HD.out.mono HBW.out.drew.size)).size (.cells #[.int .i64 0, .bool false, .slice none 0 0, .int .u64 0, .string ⟨#[]⟩, .slice none 0 0] 33)).trans HB6.out) HLE.out HG7.out HXS.out)
        exact hQ _ _ _ _ _ _ _ _ _ _ _ HRR
    · go_simp
      refine hK.out _ _ (((HBW.out.drew.trans (HD.out.mono HBW.out.drew.size)).alloc (HBW.out.drew.trans (HD.out.mono HBW.out.drew.size)).size (.cells #[.int .i64 0, .bool false, .slice none 0 0, .int .u64 0, .string ⟨#[]⟩, .slice none 0 0] 33))) (fun hHeld => ?_)
      clear hK K
      try simp only [Act.put, List.getElem_toArray, List.getElem_cons_zero, List.getElem_cons_succ, List.setIfInBounds_toArray, List.set_cons_zero, List.set_cons_succ]
      have HXY := Lib.hid (HXY.out.below ((Below.refl wD.heap.size wD).alloc (Nat.le_refl _) (.cells #[.int .i64 0, .bool false, .slice none 0 0, .int .u64 0, .string ⟨#[]⟩, .slice none 0 0] 33)))
      have HZ0 : Hid (Blk (wD.alloc (.cells #[.int .i64 0, .bool false, .slice none 0 0, .int .u64 0, .string ⟨#[]⟩, .slice none 0 0] 33)) wD.heap.size 33 #[.int .i64 0, .bool false, .slice none 0 0, .int .u64 0, .string ⟨#[]⟩, .slice none 0 0]) := Blk.new _ _ _
      refine wpAnyH_ready (rs := [0]) (by kernel_rfl) (by simp) ?_
      refine (AllReadyH.cons rfl (fun K hK => ?_) AllReadyH.nil)
      have hA := (HLB.out.below ((Below.refl wr.heap.size wr).drew.trans (HD.out.mono (Below.refl wr.heap.size wr).drew.size)) HLB.out.lt).cell 0
      replace hA := hA.trans rfl
      have hAl := (HLB.out.below ((Below.refl wr.heap.size wr).drew.trans (HD.out.mono (Below.refl wr.heap.size wr).drew.size)) HLB.out.lt).lt
      go_simp
      refine hK.out _ _ (((HBW.out.drew.trans (HD.out.mono HBW.out.drew.size)).alloc (HBW.out.drew.trans (HD.out.mono HBW.out.drew.size)).size (.cells #[.int .i64 0, .bool false, .slice none 0 0, .int .u64 0, .string ⟨#[]⟩, .slice none 0 0] 33))) (fun hHeld => ?_)
      clear hK K
      try simp only [Act.put, List.getElem_toArray, List.getElem_cons_zero, List.getElem_cons_succ, List.setIfInBounds_toArray, List.set_cons_zero, List.set_cons_succ]
      clear hA hAl
      refine wpAnyH_take (i := 6) (v := ?_) rfl (by kernel_rfl) (by kernel_rfl) (by kernel_rfl) (fun c _ _ h => hP c _ _ _ _ h) (Or.inl ⟨by rfl, ?_⟩) (by assumption) ?_
      rotate_left
      · intro w9 hSw
        obtain ⟨i0, i1, i2, i3, i4, i5⟩ := HCI.out w9 hSw
        go_simp
        (try with_reducible rfl)
      try simp only [Act.put, List.getElem_toArray, List.getElem_cons_zero, List.getElem_cons_succ, List.setIfInBounds_toArray, List.set_cons_zero, List.set_cons_succ]
      refine wpAnyH_ready (rs := [8]) (by kernel_rfl) (by simp) ?_
      refine (AllReadyH.cons rfl (fun K hK => ?_) AllReadyH.nil)
      rw [if_pos (by rfl)]
      have HRC := Lib.hid (own_below HROW.out (((Below.refl wr.heap.size wr).drew.trans (HD.out.mono (Below.refl wr.heap.size wr).drew.size)).alloc ((Below.refl wr.heap.size wr).drew.trans (HD.out.mono (Below.refl wr.heap.size wr).drew.size)).size (.cells #[.int .i64 0, .bool false, .slice none 0 0, .int .u64 0, .string ⟨#[]⟩, .slice none 0 0] 33)))
      have HLC := Lib.hid (HLB.out.below (((Below.refl wr.heap.size wr).drew.trans (HD.out.mono (Below.refl wr.heap.size wr).drew.size)).alloc ((Below.refl wr.heap.size wr).drew.trans (HD.out.mono (Below.refl wr.heap.size wr).drew.size)).size (.cells #[.int .i64 0, .bool false, .slice none 0 0, .int .u64 0, .string ⟨#[]⟩, .slice none 0 0] 33)) HLB.out.lt)
      refine wp_append_zero _ _ _ rfl w.heap.size _ i xs HRC.out rfl _ HZ0.out rfl hi1000 ((HBW.out.drew.trans (HD.out.mono HBW.out.drew.size)).alloc (HBW.out.drew.trans (HD.out.mono HBW.out.drew.size)).size (.cells #[.int .i64 0, .bool false, .slice none 0 0, .int .u64 0, .string ⟨#[]⟩, .slice none 0 0] 33)).size ?_
      intro v6 w6 hr6 hb6 hg6
      obtain ⟨g6, c6', hv6, _⟩ := own_last hr6 HXL.out
      rw [← HM6.out] at hv6
      subst hv6
      have HR6 := Lib.hid hr6
      have HB6 := Lib.hid hb6
      have HL6 := Lib.hid (HLC.out.grown hg6 (fun e => own_ne_blk HRC.out HLC.out (by decide) _ e.symm rfl))
      have HQ6 := Lib.hid (fun p hp => ((HXQ.out p hp).below (((Below.refl wr.heap.size wr).drew.trans (HD.out.mono (Below.refl wr.heap.size wr).drew.size)).alloc ((Below.refl wr.heap.size wr).drew.trans (HD.out.mono (Below.refl wr.heap.size wr).drew.size)).size (.cells #[.int .i64 0, .bool false, .slice none 0 0, .int .u64 0, .string ⟨#[]⟩, .slice none 0 0] 33))).grown HRC.out (by decide) hg6)
      have HXY6 := Lib.hid (HXY.out.grown HRC.out (by decide) hg6)
      clear hr6 hb6 hg6
      refine hK.out _ _ ((((HBW.out.drew.trans (HD.out.mono HBW.out.drew.size)).alloc (HBW.out.drew.trans (HD.out.mono HBW.out.drew.size)).size (.cells #[.int .i64 0, .bool false, .slice none 0 0, .int .u64 0, .string ⟨#[]⟩, .slice none 0 0] 33)).trans HB6.out)) (fun hHeld => ?_)
      clear hK K
      try simp only [Act.put, List.getElem_toArray, List.getElem_cons_zero, List.getElem_cons_succ, List.setIfInBounds_toArray, List.set_cons_zero, List.set_cons_succ]
      refine wpAnyH_take (i := 9) (v := ?_) rfl (by kernel_rfl) (by kernel_rfl) (by kernel_rfl) (fun c _ _ h => hP c _ _ _ _ h) (Or.inl ⟨by rfl, ?_⟩) (by assumption) ?_
      rotate_left
      · intro w9 hSw
        obtain ⟨i0, i1, i2, i3, i4, i5⟩ := HCI.out w9 hSw
        go_simp
        (try with_reducible rfl)
      try simp only [Act.put, List.getElem_toArray, List.getElem_cons_zero, List.getElem_cons_succ, List.setIfInBounds_toArray, List.set_cons_zero, List.set_cons_succ]
      obtain ⟨_, _, hv7, hg7, hl7, ⟨_, hk7⟩, ⟨y0, y1, y2, y3, y4, y5⟩, z0, z1, z2, z3, z4, z5⟩ := own_last HR6.out HXL.out
      injection hv7 with e1 e2 e3
      injection e1 with e1
      injection e1 with e1 _ _
      subst e1 e3
      have l0 := (HL6.out.cell 0).trans rfl
      have l1 := HL6.out.frozen 0
      have n1 : ¬ L = g6 := fun e => own_ne_blk HR6.out HL6.out (by decide) _ rfl e.symm
      have n2 : ¬ g6 = L := fun e => n1 e.symm
      have HG7 := Lib.hid hg7
      clear hg7 hl7 hk7 e2
      refine wpAnyH_ready (rs := [10, 11]) (by kernel_rfl) (by simp) ?_
      refine (AllReadyH.cons rfl (fun K hK => ?_) (AllReadyH.cons rfl (fun K hK => ?_) AllReadyH.nil))
      · go_simp
        refine hK.out _ _ (tail_below (((HBW.out.drew.trans (HD.out.mono HBW.out.drew.size)).alloc (HBW.out.drew.trans (HD.out.mono HBW.out.drew.size)).size (.cells #[.int .i64 0, .bool false, .slice none 0 0, .int .u64 0, .string ⟨#[]⟩, .slice none 0 0] 33)).trans HB6.out) HG7.out) (fun hHeld => ?_)
        clear hK K
        try simp only [Act.put, List.getElem_toArray, List.getElem_cons_zero, List.getElem_cons_succ, List.setIfInBounds_toArray, List.set_cons_zero, List.set_cons_succ]
        refine wpAnyH_ready (rs := [11]) (by kernel_rfl) (by simp) ?_
        refine (AllReadyH.cons rfl (fun K hK => ?_) AllReadyH.nil)
        go_simp
        refine hK.out _ _ ((tail_below (((HBW.out.drew.trans (HD.out.mono HBW.out.drew.size)).alloc (HBW.out.drew.trans (HD.out.mono HBW.out.drew.size)).size (.cells #[.int .i64 0, .bool false, .slice none 0 0, .int .u64 0, .string ⟨#[]⟩, .slice none 0 0] 33)).trans HB6.out) HG7.out).setCell (p := ⟨L, 0, none⟩) HLE.out _) (fun hHeld => ?_)
        clear hK K
        try simp only [Act.put, List.getElem_toArray, List.getElem_cons_zero, List.getElem_cons_succ, List.setIfInBounds_toArray, List.set_cons_zero, List.set_cons_succ]
        refine wpAnyH_done (by kernel_rfl) ?_ _
        have HRR := (run_leaf HM6.out HR6.out HXL.out HQ6.out HXY6.out HL6.out (((HBW.out.drew.trans (HD.out.mono HBW.out.drew.size)).alloc (HBW.out.drew.trans (HD.out.mono HBW.out.drew.size)).size (.cells #[.int .i64 0, .bool false, .slice none 0 0, .int .u64 0, .string ⟨#[]⟩, .slice none 0 0] 33)).trans HB6.out) HLE.out HG7.out HXS.out)
        exact hQ _ _ _ _ _ _ _ _ _ _ _ HRR
      · go_simp
        refine hK.out _ _ (((((HBW.out.drew.trans (HD.out.mono HBW.out.drew.size)).alloc (HBW.out.drew.trans (HD.out.mono HBW.out.drew.size)).size (.cells #[.int .i64 0, .bool false, .slice none 0 0, .int .u64 0, .string ⟨#[]⟩, .slice none 0 0] 33)).trans HB6.out)).setCell (p := ⟨L, 0, none⟩) HLE.out _) (fun hHeld => ?_)
        clear hK K
        try simp only [Act.put, List.getElem_toArray, List.getElem_cons_zero, List.getElem_cons_succ, List.setIfInBounds_toArray, List.set_cons_zero, List.set_cons_succ]
        refine wpAnyH_ready (rs := [10]) (by kernel_rfl) (by simp) ?_
        refine (AllReadyH.cons rfl (fun K hK => ?_) AllReadyH.nil)
        go_simp
        refine hK.out _ _ (tail_below (((((HBW.out.drew.trans (HD.out.mono HBW.out.drew.size)).alloc (HBW.out.drew.trans (HD.out.mono HBW.out.drew.size)).size (.cells #[.int .i64 0, .bool false, .slice none 0 0, .int .u64 0, .string ⟨#[]⟩, .slice none 0 0] 33)).trans HB6.out)).setCell (p := ⟨L, 0, none⟩) HLE.out _) HG7.out) (fun hHeld => ?_)
        clear hK K
        try simp only [Act.put, List.getElem_toArray, List.getElem_cons_zero, List.getElem_cons_succ, List.setIfInBounds_toArray, List.set_cons_zero, List.set_cons_succ]
        refine wpAnyH_done (by kernel_rfl) ?_ _
        have HRR := (run_leaf2 HM6.out HR6.out HXL.out HQ6.out HXY6.out HL6.out (((HBW.out.drew.trans (HD.out.mono HBW.out.drew.size)).alloc (HBW.out.drew.trans (HD.out.mono HBW.out.drew.size)).size (.cells #[.int .i64 0, .bool false, .slice none 0 0, .int .u64 0, .string ⟨#[]⟩, .slice none 0 0] 33)).trans HB6.out) HLE.out HG7.out HXS.out)
        exact hQ _ _ _ _ _ _ _ _ _ _ _ HRR
  · go_simp
    refine hK.out _ _ ((HBW.out.drew.alloc HBW.out.drew.size (.cells #[.int .i64 0, .bool false, .slice none 0 0, .int .u64 0, .string ⟨#[]⟩, .slice none 0 0] 33))) (fun hHeld => ?_)
    clear hK K
    try simp only [Act.put, List.getElem_toArray, List.getElem_cons_zero, List.getElem_cons_succ, List.setIfInBounds_toArray, List.set_cons_zero, List.set_cons_succ]
    have HZ0 : Hid (Blk (wr.drew.alloc (.cells #[.int .i64 0, .bool false, .slice none 0 0, .int .u64 0, .string ⟨#[]⟩, .slice none 0 0] 33)) wr.drew.heap.size 33 #[.int .i64 0, .bool false, .slice none 0 0, .int .u64 0, .string ⟨#[]⟩, .slice none 0 0]) := Blk.new _ _ _
    refine wpAnyH_ready (rs := [0, 5]) (by kernel_rfl) (by simp) ?_
    refine (AllReadyH.cons rfl (fun K hK => ?_) (AllReadyH.cons rfl (fun K hK => ?_) AllReadyH.nil))
    · have hA := (HLB.out.below (Below.refl wr.heap.size wr) HLB.out.lt).cell 0
      replace hA := hA.trans rfl
      have hAl := (HLB.out.below (Below.refl wr.heap.size wr) HLB.out.lt).lt
      go_simp
      refine hK.out _ _ ((HBW.out.drew.alloc HBW.out.drew.size (.cells #[.int .i64 0, .bool false, .slice none 0 0, .int .u64 0, .string ⟨#[]⟩, .slice none 0 0] 33))) (fun hHeld => ?_)
      clear hK K
      try simp only [Act.put, List.getElem_toArray, List.getElem_cons_zero, List.getElem_cons_succ, List.setIfInBounds_toArray, List.set_cons_zero, List.set_cons_succ]
      clear hA hAl
      refine wpAnyH_take (i := 6) (v := ?_) rfl (by kernel_rfl) (by kernel_rfl) (by kernel_rfl) (fun c _ _ h => hP c _ _ _ _ h) (Or.inl ⟨by rfl, ?_⟩) (by assumption) ?_
      rotate_left
      · intro w9 hSw
        obtain ⟨i0, i1, i2, i3, i4, i5⟩ := HCI.out w9 hSw
        go_simp
        (try with_reducible rfl)
      try simp only [Act.put, List.getElem_toArray, List.getElem_cons_zero, List.getElem_cons_succ, List.setIfInBounds_toArray, List.set_cons_zero, List.set_cons_succ]
      refine wpAnyH_ready (rs := [5]) (by kernel_rfl) (by simp) ?_
      refine (AllReadyH.cons rfl (fun K hK => ?_) AllReadyH.nil)
      go_simp
      refine (HCL.out _ ?_).mono ?_
      · exact (HBW.out.drew.alloc HBW.out.drew.size (.cells #[.int .i64 0, .bool false, .slice none 0 0, .int .u64 0, .string ⟨#[]⟩, .slice none 0 0] 33))
      rintro e wD ⟨y, s, rfl, hxD, hbD⟩
      have HD := Lib.hid hbD
      replace hxD := hxD.base (Nat.zero_le _)
      obtain ⟨n1, a1, m1, c1, b1, x1, rfl⟩ := hxD.form
      obtain ⟨kd, hkd⟩ : ∃ kd, kd = kx s := ⟨_, rfl⟩
      rw [← hkd] at hxD ⊢
      have HXY := Lib.hid hxD
      have HZ1 : Hid (Blk wD wr.drew.heap.size 33 #[.int .i64 0, .bool false, .slice none 0 0, .int .u64 0, .string ⟨#[]⟩, .slice none 0 0]) := HZ0.out.below hbD HZ0.out.lt
      clear hbD hxD hkd
      unfold pv
      go_wp2_with fail
      refine hK.out _ _ (((HBW.out.drew.alloc HBW.out.drew.size (.cells #[.int .i64 0, .bool false, .slice none 0 0, .int .u64 0, .string ⟨#[]⟩, .slice none 0 0] 33)).trans (HD.out.mono (HBW.out.drew.alloc HBW.out.drew.size (.cells #[.int .i64 0, .bool false, .slice none 0 0, .int .u64 0, .string ⟨#[]⟩, .slice none 0 0] 33)).size))) (fun hHeld => ?_)
      clear hK K
      try simp only [Act.put, List.getElem_toArray, List.getElem_cons_zero, List.getElem_cons_succ, List.setIfInBounds_toArray, List.set_cons_zero, List.set_cons_succ]
      refine wpAnyH_ready (rs := [8]) (by kernel_rfl) (by simp) ?_
      refine (AllReadyH.cons rfl (fun K hK => ?_) AllReadyH.nil)
      rw [if_pos (by rfl)]
      have HRC := Lib.hid (own_below HROW.out (((Below.refl wr.heap.size wr).drew.alloc (Below.refl wr.heap.size wr).drew.size (.cells #[.int .i64 0, .bool false, .slice none 0 0, .int .u64 0, .string ⟨#[]⟩, .slice none 0 0] 33)).trans (HD.out.mono ((Below.refl wr.heap.size wr).drew.alloc (Below.refl wr.heap.size wr).drew.size (.cells #[.int .i64 0, .bool false, .slice none 0 0, .int .u64 0, .string ⟨#[]⟩, .slice none 0 0] 33)).size)))
      have HLC := Lib.hid (HLB.out.below (((Below.refl wr.heap.size wr).drew.alloc (Below.refl wr.heap.size wr).drew.size (.cells #[.int .i64 0, .bool false, .slice none 0 0, .int .u64 0, .string ⟨#[]⟩, .slice none 0 0] 33)).trans (HD.out.mono ((Below.refl wr.heap.size wr).drew.alloc (Below.refl wr.heap.size wr).drew.size (.cells #[.int .i64 0, .bool false, .slice none 0 0, .int .u64 0, .string ⟨#[]⟩, .slice none 0 0] 33)).size)) HLB.out.lt)
      refine wp_append_zero _ _ _ rfl w.heap.size _ i xs HRC.out rfl _ HZ1.out rfl hi1000 ((HBW.out.drew.alloc HBW.out.drew.size (.cells #[.int .i64 0, .bool false, .slice none 0 0, .int .u64 0, .string ⟨#[]⟩, .slice none 0 0] 33)).trans (HD.out.mono (HBW.out.drew.alloc HBW.out.drew.size (.cells #[.int .i64 0, .bool false, .slice none 0 0, .int .u64 0, .string ⟨#[]⟩, .slice none 0 0] 33)).size)).size ?_
      intro v6 w6 hr6 hb6 hg6
      obtain ⟨g6, c6', hv6, _⟩ := own_last hr6 HXL.out
      rw [← HM6.out] at hv6
      subst hv6
      have HR6 := Lib.hid hr6
      have HB6 := Lib.hid hb6
      have HL6 := Lib.hid (HLC.out.grown hg6 (fun e => own_ne_blk HRC.out HLC.out (by decide) _ e.symm rfl))
      have HQ6 := Lib.hid (fun p hp => ((HXQ.out p hp).below (((Below.refl wr.heap.size wr).drew.alloc (Below.refl wr.heap.size wr).drew.size (.cells #[.int .i64 0, .bool false, .slice none 0 0, .int .u64 0, .string ⟨#[]⟩, .slice none 0 0] 33)).trans (HD.out.mono ((Below.refl wr.heap.size wr).drew.alloc (Below.refl wr.heap.size wr).drew.size (.cells #[.int .i64 0, .bool false, .slice none 0 0, .int .u64 0, .string ⟨#[]⟩, .slice none 0 0] 33)).size))).grown HRC.out (by decide) hg6)
      have HXY6 := Lib.hid (HXY.out.grown HRC.out (by decide) hg6)
      clear hr6 hb6 hg6
      refine hK.out _ _ ((((HBW.out.drew.alloc HBW.out.drew.size (.cells #[.int .i64 0, .bool false, .slice none 0 0, .int .u64 0, .string ⟨#[]⟩, .slice none 0 0] 33)).trans (HD.out.mono (HBW.out.drew.alloc HBW.out.drew.size (.cells #[.int .i64 0, .bool false, .slice none 0 0, .int .u64 0, .string ⟨#[]⟩, .slice none 0 0] 33)).size)).trans HB6.out)) (fun hHeld => ?_)
      clear hK K
      try simp only [Act.put, List.getElem_toArray, List.getElem_cons_zero, List.getElem_cons_succ, List.setIfInBounds_toArray, List.set_cons_zero, List.set_cons_succ]
      refine wpAnyH_take (i := 9) (v := ?_) rfl (by kernel_rfl) (by kernel_rfl) (by kernel_rfl) (fun c _ _ h => hP c _ _ _ _ h) (Or.inl ⟨by rfl, ?_⟩) (by assumption) ?_
      rotate_left
      · intro w9 hSw
        obtain ⟨i0, i1, i2, i3, i4, i5⟩ := HCI.out w9 hSw
        go_simp
        (try with_reducible rfl)
      try simp only [Act.put, List.getElem_toArray, List.getElem_cons_zero, List.getElem_cons_succ, List.setIfInBounds_toArray, List.set_cons_zero, List.set_cons_succ]
      obtain ⟨_, _, hv7, hg7, hl7, ⟨_, hk7⟩, ⟨y0, y1, y2, y3, y4, y5⟩, z0, z1, z2, z3, z4, z5⟩ := own_last HR6.out HXL.out
      injection hv7 with e1 e2 e3
      injection e1 with e1
      injection e1 with e1 _ _
      subst e1 e3
      have l0 := (HL6.out.cell 0).trans rfl
      have l1 := HL6.out.frozen 0
      have n1 : ¬ L = g6 := fun e => own_ne_blk HR6.out HL6.out (by decide) _ rfl e.symm
      have n2 : ¬ g6 = L := fun e => n1 e.symm
      have HG7 := Lib.hid hg7
      clear hg7 hl7 hk7 e2
      refine wpAnyH_ready (rs := [10, 11]) (by kernel_rfl) (by simp) ?_
      refine (AllReadyH.cons rfl (fun K hK => ?_) (AllReadyH.cons rfl (fun K hK => ?_) AllReadyH.nil))
      · go_simp
        refine hK.out _ _ (tail_below (((HBW.out.drew.alloc HBW.out.drew.size (.cells #[.int .i64 0, .bool false, .slice none 0 0, .int .u64 0, .string ⟨#[]⟩, .slice none 0 0] 33)).trans (HD.out.mono (HBW.out.drew.alloc HBW.out.drew.size (.cells #[.int .i64 0, .bool false, .slice none 0 0, .int .u64 0, .string ⟨#[]⟩, .slice none 0 0] 33)).size)).trans HB6.out) HG7.out) (fun hHeld => ?_)
        clear hK K
        try simp only [Act.put, List.getElem_toArray, List.getElem_cons_zero, List.getElem_cons_succ, List.setIfInBounds_toArray, List.set_cons_zero, List.set_cons_succ]
        refine wpAnyH_ready (rs := [11]) (by kernel_rfl) (by simp) ?_
        refine (AllReadyH.cons rfl (fun K hK => ?_) AllReadyH.nil)
        go_simp
        refine hK.out _ _ ((tail_below (((HBW.out.drew.alloc HBW.out.drew.size (.cells #[.int .i64 0, .bool false, .slice none 0 0, .int .u64 0, .string ⟨#[]⟩, .slice none 0 0] 33)).trans (HD.out.mono (HBW.out.drew.alloc HBW.out.drew.size (.cells #[.int .i64 0, .bool false, .slice none 0 0, .int .u64 0, .string ⟨#[]⟩, .slice none 0 0] 33)).size)).trans HB6.out) HG7.out).setCell (p := ⟨L, 0, none⟩) HLE.out _) (fun hHeld => ?_)
        clear hK K
        try simp only [Act.put, List.getElem_toArray, List.getElem_cons_zero, List.getElem_cons_succ, List.setIfInBounds_toArray, List.set_cons_zero, List.set_cons_succ]
        refine wpAnyH_done (by kernel_rfl) ?_ _
        have HRR := (run_leaf HM6.out HR6.out HXL.out HQ6.out HXY6.out HL6.out (((HBW.out.drew.alloc HBW.out.drew.size (.cells #[.int .i64 0, .bool false, .slice none 0 0, .int .u64 0, .string ⟨#[]⟩, .slice none 0 0] 33)).trans (HD.out.mono (HBW.out.drew.alloc HBW.out.drew.size (.cells #[.int .i64 0, .bool false, .slice none 0 0, .int .u64 0, .string ⟨#[]⟩, .slice none 0 0] 33)).size)).trans HB6.out) HLE.out HG7.out HXS.out)
        exact hQ _ _ _ _ _ _ _ _ _ _ _ HRR
      · go_simp
        refine hK.out _ _ (((((HBW.out.drew.alloc HBW.out.drew.size (.cells #[.int .i64 0, .bool false, .slice none 0 0, .int .u64 0, .string ⟨#[]⟩, .slice none 0 0] 33)).trans (HD.out.mono (HBW.out.drew.alloc HBW.out.drew.size (.cells #[.int .i64 0, .bool false, .slice none 0 0, .int .u64 0, .string ⟨#[]⟩, .slice none 0 0] 33)).size)).trans HB6.out)).setCell (p := ⟨L, 0, none⟩) HLE.out _) (fun hHeld => ?_)
        clear hK K
        try simp only [Act.put, List.getElem_toArray, List.getElem_cons_zero, List.getElem_cons_succ, List.setIfInBounds_toArray, List.set_cons_zero, List.set_cons_succ]
        refine wpAnyH_ready (rs := [10]) (by kernel_rfl) (by simp) ?_
        refine (AllReadyH.cons rfl (fun K hK => ?_) AllReadyH.nil)
        go_simp
        refine hK.out _ _ (tail_below (((((HBW.out.drew.alloc HBW.out.drew.size (.cells #[.int .i64 0, .bool false, .slice none 0 0, .int .u64 0, .string ⟨#[]⟩, .slice none 0 0] 33)).trans (HD.out.mono (HBW.out.drew.alloc HBW.out.drew.size (.cells #[.int .i64 0, .bool false, .slice none 0 0, .int .u64 0, .string ⟨#[]⟩, .slice none 0 0] 33)).size)).trans HB6.out)).setCell (p := ⟨L, 0, none⟩) HLE.out _) HG7.out) (fun hHeld => ?_)
        clear hK K
        try simp only [Act.put, List.getElem_toArray, List.getElem_cons_zero, List.getElem_cons_succ, List.setIfInBounds_toArray, List.set_cons_zero, List.set_cons_succ]
        refine wpAnyH_done (by kernel_rfl) ?_ _
        have HRR := (run_leaf2 HM6.out HR6.out HXL.out HQ6.out HXY6.out HL6.out (((HBW.out.drew.alloc HBW.out.drew.size (.cells #[.int .i64 0, .bool false, .slice none 0 0, .int .u64 0, .string ⟨#[]⟩, .slice none 0 0] 33)).trans (HD.out.mono (HBW.out.drew.alloc HBW.out.drew.size (.cells #[.int .i64 0, .bool false, .slice none 0 0, .int .u64 0, .string ⟨#[]⟩, .slice none 0 0] 33)).size)).trans HB6.out) HLE.out HG7.out HXS.out)
        exact hQ _ _ _ _ _ _ _ _ _ _ _ HRR
    · go_simp
      refine (HCL.out _ ?_).mono ?_
      · exact (HBW.out.drew.alloc HBW.out.drew.size (.cells #[.int .i64 0, .bool false, .slice none 0 0, .int .u64 0, .string ⟨#[]⟩, .slice none 0 0] 33))
      rintro e wD ⟨y, s, rfl, hxD, hbD⟩
      have HD := Lib.hid hbD
      replace hxD := hxD.base (Nat.zero_le _)
      obtain ⟨n1, a1, m1, c1, b1, x1, rfl⟩ := hxD.form
      obtain ⟨kd, hkd⟩ : ∃ kd, kd = kx s := ⟨_, rfl⟩
      rw [← hkd] at hxD ⊢
      have HXY := Lib.hid hxD
      have HZ1 : Hid (Blk wD wr.drew.heap.size 33 #[.int .i64 0, .bool false, .slice none 0 0, .int .u64 0, .string ⟨#[]⟩, .slice none 0 0]) := HZ0.out.below hbD HZ0.out.lt
      clear hbD hxD hkd
      unfold pv
      go_wp2_with fail
      refine hK.out _ _ (((HBW.out.drew.alloc HBW.out.drew.size (.cells #[.int .i64 0, .bool false, .slice none 0 0, .int .u64 0, .string ⟨#[]⟩, .slice none 0 0] 33)).trans (HD.out.mono (HBW.out.drew.alloc HBW.out.drew.size (.cells #[.int .i64 0, .bool false, .slice none 0 0, .int .u64 0, .string ⟨#[]⟩, .slice none 0 0] 33)).size))) (fun hHeld => ?_)
      clear hK K
      try simp only [Act.put, List.getElem_toArray, List.getElem_cons_zero, List.getElem_cons_succ, List.setIfInBounds_toArray, List.set_cons_zero, List.set_cons_succ]
      refine wpAnyH_ready (rs := [0]) (by kernel_rfl) (by simp) ?_
      refine (AllReadyH.cons rfl (fun K hK => ?_) AllReadyH.nil)
      have hA := (HLB.out.below (((Below.refl wr.heap.size wr).drew.alloc (Below.refl wr.heap.size wr).drew.size (.cells #[.int .i64 0, .bool false, .slice none 0 0, .int .u64 0, .string ⟨#[]⟩, .slice none 0 0] 33)).trans (HD.out.mono ((Below.refl wr.heap.size wr).drew.alloc (Below.refl wr.heap.size wr).drew.size (.cells #[.int .i64 0, .bool false, .slice none 0 0, .int .u64 0, .string ⟨#[]⟩, .slice none 0 0] 33)).size)) HLB.out.lt).cell 0
      replace hA := hA.trans rfl
      go_simp
      refine hK.out _ _ (((HBW.out.drew.alloc HBW.out.drew.size (.cells #[.int .i64 0, .bool false, .slice none 0 0, .int .u64 0, .string ⟨#[]⟩, .slice none 0 0] 33)).trans (HD.out.mono (HBW.out.drew.alloc HBW.out.drew.size (.cells #[.int .i64 0, .bool false, .slice none 0 0, .int .u64 0, .string ⟨#[]⟩, .slice none 0 0] 33)).size))) (fun hHeld => ?_)
      clear hK K
      try simp only [Act.put, List.getElem_toArray, List.getElem_cons_zero, List.getElem_cons_succ, List.setIfInBounds_toArray, List.set_cons_zero, List.set_cons_succ]
      clear hA
      refine wpAnyH_take (i := 6) (v := ?_) rfl (by kernel_rfl) (by kernel_rfl) (by kernel_rfl) (fun c _ _ h => hP c _ _ _ _ h) (Or.inl ⟨by rfl, ?_⟩) (by assumption) ?_
      rotate_left
      · intro w9 hSw
        obtain ⟨i0, i1, i2, i3, i4, i5⟩ := HCI.out w9 hSw
        go_simp
        (try with_reducible rfl)
      try simp only [Act.put, List.getElem_toArray, List.getElem_cons_zero, List.getElem_cons_succ, List.setIfInBounds_toArray, List.set_cons_zero, List.set_cons_succ]
      refine wpAnyH_ready (rs := [8]) (by kernel_rfl) (by simp) ?_
      refine (AllReadyH.cons rfl (fun K hK => ?_) AllReadyH.nil)
      rw [if_pos (by rfl)]
      have HRC := Lib.hid (own_below HROW.out (((Below.refl wr.heap.size wr).drew.alloc (Below.refl wr.heap.size wr).drew.size (.cells #[.int .i64 0, .bool false, .slice none 0 0, .int .u64 0, .string ⟨#[]⟩, .slice none 0 0] 33)).trans (HD.out.mono ((Below.refl wr.heap.size wr).drew.alloc (Below.refl wr.heap.size wr).drew.size (.cells #[.int .i64 0, .bool false, .slice none 0 0, .int .u64 0, .string ⟨#[]⟩, .slice none 0 0] 33)).size)))
      have HLC := Lib.hid (HLB.out.below (((Below.refl wr.heap.size wr).drew.alloc (Below.refl wr.heap.size wr).drew.size (.cells #[.int .i64 0, .bool false, .slice none 0 0, .int .u64 0, .string ⟨#[]⟩, .slice none 0 0] 33)).trans (HD.out.mono ((Below.refl wr.heap.size wr).drew.alloc (Below.refl wr.heap.size wr).drew.size (.cells #[.int .i64 0, .bool false, .slice none 0 0, .int .u64 0, .string ⟨#[]⟩, .slice none 0 0] 33)).size)) HLB.out.lt)
      refine wp_append_zero _ _ _ rfl w.heap.size _ i xs HRC.out rfl _ HZ1.out rfl hi1000 ((HBW.out.drew.alloc HBW.out.drew.size (.cells #[.int .i64 0, .bool false, .slice none 0 0, .int .u64 0, .string ⟨#[]⟩, .slice none 0 0] 33)).trans (HD.out.mono (HBW.out.drew.alloc HBW.out.drew.size (.cells #[.int .i64 0, .bool false, .slice none 0 0, .int .u64 0, .string ⟨#[]⟩, .slice none 0 0] 33)).size)).size ?_
      intro v6 w6 hr6 hb6 hg6
      obtain ⟨g6, c6', hv6, _⟩ := own_last hr6 HXL.out
      rw [← HM6.out] at hv6
      subst hv6
      have HR6 := Lib.hid hr6
      have HB6 := Lib.hid hb6
      have HL6 := Lib.hid (HLC.out.grown hg6 (fun e => own_ne_blk HRC.out HLC.out (by decide) _ e.symm rfl))
      have HQ6 := Lib.hid (fun p hp => ((HXQ.out p hp).below (((Below.refl wr.heap.size wr).drew.alloc (Below.refl wr.heap.size wr).drew.size (.cells #[.int .i64 0, .bool false, .slice none 0 0, .int .u64 0, .string ⟨#[]⟩, .slice none 0 0] 33)).trans (HD.out.mono ((Below.refl wr.heap.size wr).drew.alloc (Below.refl wr.heap.size wr).drew.size (.cells #[.int .i64 0, .bool false, .slice none 0 0, .int .u64 0, .string ⟨#[]⟩, .slice none 0 0] 33)).size))).grown HRC.out (by decide) hg6)
      have HXY6 := Lib.hid (HXY.out.grown HRC.out (by decide) hg6)
      clear hr6 hb6 hg6
      refine hK.out _ _ ((((HBW.out.drew.alloc HBW.out.drew.size (.cells #[.int .i64 0, .bool false, .slice none 0 0, .int .u64 0, .string ⟨#[]⟩, .slice none 0 0] 33)).trans (HD.out.mono (HBW.out.drew.alloc HBW.out.drew.size (.cells #[.int .i64 0, .bool false, .slice none 0 0, .int .u64 0, .string ⟨#[]⟩, .slice none 0 0] 33)).size)).trans HB6.out)) (fun hHeld => ?_)
      clear hK K
      try simp only [Act.put, List.getElem_toArray, List.getElem_cons_zero, List.getElem_cons_succ, List.setIfInBounds_toArray, List.set_cons_zero, List.set_cons_succ]
      refine wpAnyH_take (i := 9) (v := ?_) rfl (by kernel_rfl) (by kernel_rfl) (by kernel_rfl) (fun c _ _ h => hP c _ _ _ _ h) (Or.inl ⟨by rfl, ?_⟩) (by assumption) ?_
      rotate_left
      · intro w9 hSw
        obtain ⟨i0, i1, i2, i3, i4, i5⟩ := HCI.out w9 hSw
        go_simp
        (try with_reducible rfl)
      try simp only [Act.put, List.getElem_toArray, List.getElem_cons_zero, List.getElem_cons_succ, List.setIfInBounds_toArray, List.set_cons_zero, List.set_cons_succ]
      obtain ⟨_, _, hv7, hg7, hl7, ⟨_, hk7⟩, ⟨y0, y1, y2, y3, y4, y5⟩, z0, z1, z2, z3, z4, z5⟩ := own_last HR6.out HXL.out
      injection hv7 with e1 e2 e3
      injection e1 with e1
      injection e1 with e1 _ _
      subst e1 e3
      have l0 := (HL6.out.cell 0).trans rfl
      have l1 := HL6.out.frozen 0
      have n1 : ¬ L = g6 := fun e => own_ne_blk HR6.out HL6.out (by decide) _ rfl e.symm
      have n2 : ¬ g6 = L := fun e => n1 e.symm
      have HG7 := Lib.hid hg7
      clear hg7 hl7 hk7 e2
      refine wpAnyH_ready (rs := [10, 11]) (by kernel_rfl) (by simp) ?_
      refine (AllReadyH.cons rfl (fun K hK => ?_) (AllReadyH.cons rfl (fun K hK => ?_) AllReadyH.nil))
      · go_simp
        refine hK.out _ _ (tail_below (((HBW.out.drew.alloc HBW.out.drew.size (.cells #[.int .i64 0, .bool false, .slice none 0 0, .int .u64 0, .string ⟨#[]⟩, .slice none 0 0] 33)).trans (HD.out.mono (HBW.out.drew.alloc HBW.out.drew.size (.cells #[.int .i64 0, .bool false, .slice none 0 0, .int .u64 0, .string ⟨#[]⟩, .slice none 0 0] 33)).size)).trans HB6.out) HG7.out) (fun hHeld => ?_)
        clear hK K
        try simp only [Act.put, List.getElem_toArray, List.getElem_cons_zero, List.getElem_cons_succ, List.setIfInBounds_toArray, List.set_cons_zero, List.set_cons_succ]
        refine wpAnyH_ready (rs := [11]) (by kernel_rfl) (by simp) ?_
        refine (AllReadyH.cons rfl (fun K hK => ?_) AllReadyH.nil)
        go_simp
        refine hK.out _ _ ((tail_below (((HBW.out.drew.alloc HBW.out.drew.size (.cells #[.int .i64 0, .bool false, .slice none 0 0, .int .u64 0, .string ⟨#[]⟩, .slice none 0 0] 33)).trans (HD.out.mono (HBW.out.drew.alloc HBW.out.drew.size (.cells #[.int .i64 0, .bool false, .slice none 0 0, .int .u64 0, .string ⟨#[]⟩, .slice none 0 0] 33)).size)).trans HB6.out) HG7.out).setCell (p := ⟨L, 0, none⟩) HLE.out _) (fun hHeld => ?_)
        clear hK K
        try simp only [Act.put, List.getElem_toArray, List.getElem_cons_zero, List.getElem_cons_succ, List.setIfInBounds_toArray, List.set_cons_zero, List.set_cons_succ]
        refine wpAnyH_done (by kernel_rfl) ?_ _
        have HRR := (run_leaf HM6.out HR6.out HXL.out HQ6.out HXY6.out HL6.out (((HBW.out.drew.alloc HBW.out.drew.size (.cells #[.int .i64 0, .bool false, .slice none 0 0, .int .u64 0, .string ⟨#[]⟩, .slice none 0 0] 33)).trans (HD.out.mono (HBW.out.drew.alloc HBW.out.drew.size (.cells #[.int .i64 0, .bool false, .slice none 0 0, .int .u64 0, .string ⟨#[]⟩, .slice none 0 0] 33)).size)).trans HB6.out) HLE.out HG7.out HXS.out)
        exact hQ _ _ _ _ _ _ _ _ _ _ _ HRR
      · go_simp
        refine hK.out _ _ (((((HBW.out.drew.alloc HBW.out.drew.size (.cells #[.int .i64 0, .bool false, .slice none 0 0, .int .u64 0, .string ⟨#[]⟩, .slice none 0 0] 33)).trans (HD.out.mono (HBW.out.drew.alloc HBW.out.drew.size (.cells #[.int .i64 0, .bool false, .slice none 0 0, .int .u64 0, .string ⟨#[]⟩, .slice none 0 0] 33)).size)).trans HB6.out)).setCell (p := ⟨L, 0, none⟩) HLE.out _) (fun hHeld => ?_)
        clear hK K
        try simp only [Act.put, List.getElem_toArray, List.getElem_cons_zero, List.getElem_cons_succ, List.setIfInBounds_toArray, List.set_cons_zero, List.set_cons_succ]
        refine wpAnyH_ready (rs := [10]) (by kernel_rfl) (by simp) ?_
        refine (AllReadyH.cons rfl (fun K hK => ?_) AllReadyH.nil)
        go_simp
        refine hK.out _ _ (tail_below (((((HBW.out.drew.alloc HBW.out.drew.size (.cells #[.int .i64 0, .bool false, .slice none 0 0, .int .u64 0, .string ⟨#[]⟩, .slice none 0 0] 33)).trans (HD.out.mono (HBW.out.drew.alloc HBW.out.drew.size (.cells #[.int .i64 0, .bool false, .slice none 0 0, .int .u64 0, .string ⟨#[]⟩, .slice none 0 0] 33)).size)).trans HB6.out)).setCell (p := ⟨L, 0, none⟩) HLE.out _) HG7.out) (fun hHeld => ?_)
        clear hK K
        try simp only [Act.put, List.getElem_toArray, List.getElem_cons_zero, List.getElem_cons_succ, List.setIfInBounds_toArray, List.set_cons_zero, List.set_cons_succ]
        refine wpAnyH_done (by kernel_rfl) ?_ _
        have HRR := (run_leaf2 HM6.out HR6.out HXL.out HQ6.out HXY6.out HL6.out (((HBW.out.drew.alloc HBW.out.drew.size (.cells #[.int .i64 0, .bool false, .slice none 0 0, .int .u64 0, .string ⟨#[]⟩, .slice none 0 0] 33)).trans (HD.out.mono (HBW.out.drew.alloc HBW.out.drew.size (.cells #[.int .i64 0, .bool false, .slice none 0 0, .int .u64 0, .string ⟨#[]⟩, .slice none 0 0] 33)).size)).trans HB6.out) HLE.out HG7.out HXS.out)
        exact hQ _ _ _ _ _ _ _ _ _ _ _ HRR
end Go.Proofs.YteibkaonofkcbaaGreat
