/- The reference's two places of a text. -/
import Derived.Test.YthoemgnfklhgjaaGreatTextCount
namespace Go.Proofs.YthoemgnfklhgjaaGreat
open Go.RowKit
attribute [local go_sem ↓] Go.wp_at_zero Go.wp_at_succ
theorem of_val2 {neg : Bool} {l : List Nat} : intOf2 (negOf neg l) (strip l) = intOf2 neg l := by
  unfold intOf2
  rw [natOf_strip]
  cases neg with
  | false => simp [negOf]
  | true =>
    cases hs : strip l with
    | cons x r => simp [negOf, hs]
    | nil =>
      have := natOf_strip l
      rw [hs] at this
      simp [natOf] at this
      simp [negOf, hs, ← this]
/-- A value in a block, from cell o on. -/
def ArgAt (w : World) (S o : Nat) (s : Sc) : Prop := S < w.heap.size ∧ ∃ neg a n c tx, PVal w 0 (pv (kindOf s) neg a n c 0 tx none 0 0) s ∧
  w.cell? ⟨S, o, none⟩ = some (.int .i64 (kindOf s)) ∧ w.cell? ⟨S, o + 1, none⟩ = some (.bool neg) ∧ w.cell? ⟨S, o + 2, none⟩ = some (.slice a n c) ∧ w.cell? ⟨S, o + 3, none⟩ = some (.int .u64 0) ∧ w.cell? ⟨S, o + 4, none⟩ = some (.string tx) ∧ w.cell? ⟨S, o + 5, none⟩ = some (.slice none 0 0)
theorem ArgAt.below {w w' : World} {S o : Nat} {s : Sc} (h : ArgAt w S o s) (hb : Below w.heap.size w w') : ArgAt w' S o s := by
  obtain ⟨hS, neg, a, n, c, tx, hp, c0, c1, c2, c3, c4, c5⟩ := h
  exact ⟨Nat.lt_of_lt_of_le hS hb.size, neg, a, n, c, tx, hp.below hb, (hb.cell (p := ⟨S, _, none⟩) hS).trans c0, (hb.cell (p := ⟨S, _, none⟩) hS).trans c1, (hb.cell (p := ⟨S, _, none⟩) hS).trans c2, (hb.cell (p := ⟨S, _, none⟩) hS).trans c3, (hb.cell (p := ⟨S, _, none⟩) hS).trans c4, (hb.cell (p := ⟨S, _, none⟩) hS).trans c5⟩
/-- The number of a value, with room or without. -/
def Num64 (n : Int) (W : World) (v : Value) : Prop := ∃ B neg l, SInt W B v neg l ∧ l.length ≤ 1000 ∧ intOf2 neg l = n
def Num2Post (n : Int) (w : World) (e : Ending) (w' : World) : Prop := ∃ v, e = .returned v ∧ Num64 n w' v ∧ Below w.heap.size w w'
def numOf : Sc → Int
  | .int n => n
  | _ => 0
theorem bsl_nil (w : World) : BSl w (.slice none 0 0) [] :=
  ⟨none, 0, rfl, Nat.le_refl _, Nat.zero_le _, by simp, fun _ => ⟨rfl, rfl⟩, fun p h => by simp at h⟩
theorem num_arg (s : Sc) (neg : Bool) (a : Option Addr) (n c : Nat) (tx : ByteArray) (w : World) (hs : s.ok) (hp : PVal w 0 (pv (kindOf s) neg a n c 0 tx none 0 0) s) :
    Calls Tryz.prog 11 #[pv (kindOf s) neg a n c 0 tx none 0 0] w (Num2Post (numOf s) w) := by
  cases s with
  | none =>
    injection hp with h1
    simp at h1
    obtain ⟨_, rfl, ⟨rfl, rfl, rfl⟩, _⟩ := h1
    refine (num_any 0 false none 0 0 0 tx none 0 0 [] w (bsl_nil w) (by simp)).mono ?_
    rintro e w' ⟨v, rfl, hsi, hb⟩
    exact ⟨v, rfl, ⟨_, _, _, hsi, by simp [strip], by rw [of_val2]; rfl⟩, hb⟩
  | str t =>
    injection hp with h1
    simp at h1
    obtain ⟨_, rfl, ⟨rfl, rfl, rfl⟩, _⟩ := h1
    refine (num_any 4 false none 0 0 0 tx none 0 0 [] w (bsl_nil w) (by simp)).mono ?_
    rintro e w' ⟨v, rfl, hsi, hb⟩
    exact ⟨v, rfl, ⟨_, _, _, hsi, by simp [strip], by rw [of_val2]; rfl⟩, hb⟩
  | int k =>
    obtain ⟨ng, l, ⟨vs, hv, ho, hh, hng⟩, hk⟩ := hp
    injection hv with hv
    simp at hv
    obtain ⟨_, rfl, rfl, rfl⟩ := hv
    have hk2 : -2147483648 ≤ k ∧ k ≤ 2147483647 := hs
    have hl := intOf2_len hh hk (by omega) (by omega)
    refine (num_any 2 neg a n c 0 ⟨#[]⟩ none 0 0 l w ho.bsl (by omega)).mono ?_
    rintro e w' ⟨v, rfl, hsi, hb⟩
    have hst := strip_le l
    exact ⟨v, rfl, ⟨_, _, _, hsi, by omega, by rw [of_val2]; exact hk⟩, hb⟩
theorem blk_pair {w : World} {g : Nat} {t : TypeId} {a b : Value} (h : Blk w g t #[a, b]) :
    w.cell? ⟨g, 0, none⟩ = some a ∧ w.cell? ⟨g, 1, none⟩ = some b ∧ w.frozen? ⟨g, 0, none⟩ = false ∧ w.frozen? ⟨g, 1, none⟩ = false :=
  ⟨(h.cell 0).trans rfl, (h.cell 1).trans rfl, h.frozen 0, h.frozen 1⟩
def SpanPost (s1 s2 : Sc) (n : Nat) (w : World) (e : Ending) (w' : World) : Prop :=
  ((∃ a b, idx s1 n 0 = some a ∧ idx s2 n n = some b ∧ e = .returned (.tuple #[.int .i64 (clampI a n), .int .i64 (max (clampI a n) (clampI b n)), .bool true])) ∨
    ((idx s1 n 0 = none ∨ idx s2 n n = none) ∧ e = .returned (.tuple #[.int .i64 0, .int .i64 0, .bool false]))) ∧ Below w.heap.size w w'
set_option maxRecDepth 100000 in
set_option maxHeartbeats 4000000 in
theorem span_any (s1 s2 : Sc) (n S c : Nat) (w : World) (h1 : s1.ok) (h2 : s2.ok) (ha : ArgAt w S 6 s1) (hb : ArgAt w S 12 s2) (hn : n ≤ 1000) :
    Calls Tryz.prog 50 #[.int .i64 (n : Int), .slice (some ⟨S, 6, none⟩) 2 c] w (SpanPost s1 s2 n w) := by
  have hSl := ha.1
  have HA := Lib.hid ha
  have HB := Lib.hid hb
  have HH1 := Lib.hid h1
  have HH2 := Lib.hid h2
  have hK := Blk.new w 117 #[.int .i64 0, .int .i64 (n : Int)]
  have HK0 := Lib.hid hK
  have HB0 := Lib.hid ((Below.refl w.heap.size w).alloc (Nat.le_refl _) (.cells #[.int .i64 0, .int .i64 (n : Int)] 117))
  obtain ⟨_, g1, a1, m1, c1, x1, hp1, p0, p1, p2, p3, p4, p5⟩ := ha.below HB0.out
  obtain ⟨_, g2, a2, m2, c2, x2, hp2, q0, q1, q2, q3, q4, q5⟩ := hb.below HB0.out
  clear ha hb h1 h2 hK
  have HB0w := Lib.hid HB0.out
  have HK0w := Lib.hid HK0.out
  clear HB0 HK0 p0 p1 p2 p3 p4 p5 q0 q1 q2 q3 q4 q5 hp1 hp2
  cases s1 with
  | none =>
    obtain ⟨_, g, a, m, c', tx, hp, p0, p1, p2, p3, p4, p5⟩ := HA.out.below HB0w.out
    have p0' := p0
    unfold kindOf at p0'
    clear p0 p1 p2 p3 p4 p5 hp
    obtain ⟨b0, b1, b2, b3⟩ := blk_pair HK0w.out
    have HI0 : Hid (idx .none n 0 = some (0 : Int)) := rfl
    have HC0 : Hid ((0 : Int) = clampI (0 : Int) n) := by unfold Hid clampI; split <;> (try split) <;> omega
    go_enter Tryz.func50, Tryz.ntmps50
    go_wp2_with fail
    refine wp_loop_rounds 3 ?_
    rw [rounds_succ]
    go_wp2_with fail
    clear p0' b0 b1 b2 b3
    have HB1w := Lib.hid HB0w.out
    have HK1w := Lib.hid HK0w.out
    cases s2 with
    | none =>
      obtain ⟨_, g, a, m, c', tx, hp, p0, p1, p2, p3, p4, p5⟩ := HB.out.below HB1w.out
      have p0' := p0
      unfold kindOf at p0'
      clear p0 p1 p2 p3 p4 p5 hp
      obtain ⟨b0, b1, b2, b3⟩ := blk_pair HK1w.out
      have HI1 : Hid (idx .none n n = some (n : Int)) := rfl
      have HC1 : Hid ((n : Int) = clampI (n : Int) n) := by unfold Hid clampI; split <;> (try split) <;> omega
      rw [rounds_succ]
      go_wp2_with fail
      clear p0' b0 b1 b2 b3
      have HB2w := Lib.hid HB1w.out
      have HK2w := Lib.hid HK1w.out
      obtain ⟨b0, b1, b2, b3⟩ := blk_pair HK2w.out
      rw [rounds_succ]
      obtain ⟨zm, hzm⟩ : ∃ zm, zm = max (0 : Int) (n : Int) := ⟨_, rfl⟩
      have hzm' := hzm.symm
      have HZM : Hid (zm = max (0 : Int) (n : Int)) := hzm
      clear hzm
      go_wp2_with fail
      go_quiet (fail)
      go_wp2
      refine bodyPost_ret (v := .tuple #[.int .i64 (0 : Int), .int .i64 zm, .bool true]) (by simp [results, Tryz.results50, go_sem]) rfl ⟨.inl ⟨_, _, HI0.out, HI1.out, by rw [← HC0.out, ← HC1.out, ← HZM.out]⟩, below_dn HB2w.out _⟩
    | str t =>
      obtain ⟨_, g, a, m, c', tx, hp, p0, p1, p2, p3, p4, p5⟩ := HB.out.below HB1w.out
      have HN := Lib.hid (num_arg _ g a m c' tx _ HH2.out hp)
      unfold pv kindOf at HN
      unfold kindOf at p0
      clear hp
      rw [rounds_succ]
      go_wp2_with fail
      refine HN.out.mono ?_
      rintro e wA ⟨vA, rfl, ⟨BA, nA, lA, hsA, hlA, hvA⟩, hbA⟩
      have HBA := Lib.hid (HB1w.out.trans (hbA.mono HB1w.out.size))
      have HKA := Lib.hid (HK1w.out.below hbA HK1w.out.lt)
      have HSA := Lib.hid (spec_int64 BA vA nA lA wA hsA (by omega))
      have hvA' : intOf2 nA lA = 0 := hvA
      rw [hvA'] at HSA
      unfold S64Post at HSA
      clear hvA' p0 p1 p2 p3 p4 p5 hsA hvA hbA HN
      rw [if_pos (by omega), decide_eq_true (by omega)] at HSA
      go_wp2_with fail
      refine HSA.out.mono ?_
      rintro e wB ⟨rfl, hbB⟩
      have HBB := Lib.hid (HBA.out.trans (hbB.mono HBA.out.size))
      have HKB := Lib.hid (HKA.out.below hbB HKA.out.lt)
      obtain ⟨_, g, a, m, c', tx, _, p0, p1, p2, p3, p4, p5⟩ := HB.out.below HBB.out
      unfold kindOf at p0
      obtain ⟨b0, b1, b2, b3⟩ := blk_pair HKB.out
      clear HSA hbB
      go_wp2_with fail
      refine bodyPost_ret (v := .tuple #[.int .i64 0, .int .i64 0, .bool false]) (by simp [results, Tryz.results50, go_sem]) rfl ⟨.inr ⟨.inr rfl, rfl⟩, HBB.out⟩
    | int k1 =>
      by_cases hk : k1 < 0
      · 
        obtain ⟨_, g, a, m, c', tx, hp, p0, p1, p2, p3, p4, p5⟩ := HB.out.below HB1w.out
        have HI1 : Hid (idx (.int k1) n n = some (k1 + (n : Int))) := by unfold Hid idx; simp only [if_pos hk]
        have HN := Lib.hid (num_arg _ g a m c' tx _ HH2.out hp)
        unfold pv kindOf at HN
        unfold kindOf at p0
        clear hp
        rw [rounds_succ]
        go_wp2_with fail
        refine HN.out.mono ?_
        rintro e wA ⟨vA, rfl, ⟨BA, nA, lA, hsA, hlA, hvA⟩, hbA⟩
        have HBA := Lib.hid (HB1w.out.trans (hbA.mono HB1w.out.size))
        have HKA := Lib.hid (HK1w.out.below hbA HK1w.out.lt)
        have HSA := Lib.hid (spec_int64 BA vA nA lA wA hsA (by omega))
        have hvA' : intOf2 nA lA = k1 := hvA
        rw [hvA'] at HSA
        unfold S64Post at HSA
        clear hvA' p0 p1 p2 p3 p4 p5 hsA hvA hbA HN
        have hk0 : -2147483648 ≤ k1 ∧ k1 ≤ 2147483647 := HH2.out
        rw [if_pos (by omega), decide_eq_true (by omega)] at HSA
        go_wp2_with fail
        refine HSA.out.mono ?_
        rintro e wB ⟨rfl, hbB⟩
        have HBB := Lib.hid (HBA.out.trans (hbB.mono HBA.out.size))
        have HKB := Lib.hid (HKA.out.below hbB HKA.out.lt)
        obtain ⟨_, g, a, m, c', tx, _, p0, p1, p2, p3, p4, p5⟩ := HB.out.below HBB.out
        unfold kindOf at p0
        obtain ⟨b0, b1, b2, b3⟩ := blk_pair HKB.out
        have hd0 : decide (k1 < 0) = true := by simp; omega
        have hd1 : decide ((2147483647 : Int) < k1) = false := by simp; omega
        have hd2 : decide (k1 < -2147483648) = false := by simp; omega
        obtain ⟨z1, hz1⟩ : ∃ z1, z1 = min (k1 + (n : Int)) (n : Int) := ⟨_, rfl⟩
        obtain ⟨z1, hz⟩ : ∃ z, z = max 0 z1 := ⟨_, rfl⟩
        have hz1' := hz1.symm
        have hz' := hz.symm
        have HC1 : Hid (z1 = clampI (k1 + (n : Int)) n) := by unfold Hid; rw [hz, hz1]; unfold clampI; split <;> (try split) <;> omega
        have hzr1 : 0 ≤ z1 ∧ z1 ≤ n := by omega
        clear hz hz1 HSA hbB
        go_wp2_with fail
        clear p0 p1 p2 p3 p4 p5 b0 b1 b2 b3 hd0 hd1 hd2 hz1' hz'
        have HB2w : Hid (Below w.heap.size w (wB.setCell ⟨w.heap.size, 1, none⟩ (.int .i64 z1))) := HBB.out.setCell (p := ⟨w.heap.size, 1, none⟩) (Nat.le_refl _) _
        have HK2w : Hid (Blk (wB.setCell ⟨w.heap.size, 1, none⟩ (.int .i64 z1)) w.heap.size 117 #[.int .i64 (0 : Int), .int .i64 z1]) := HKB.out.put 1 _
        obtain ⟨b0, b1, b2, b3⟩ := blk_pair HK2w.out
        rw [rounds_succ]
        obtain ⟨zm, hzm⟩ : ∃ zm, zm = max (0 : Int) z1 := ⟨_, rfl⟩
        have hzm' := hzm.symm
        have HZM : Hid (zm = max (0 : Int) z1) := hzm
        clear hzm
        go_wp2_with fail
        go_quiet (fail)
        go_wp2
        refine bodyPost_ret (v := .tuple #[.int .i64 (0 : Int), .int .i64 zm, .bool true]) (by simp [results, Tryz.results50, go_sem]) rfl ⟨.inl ⟨_, _, HI0.out, HI1.out, by rw [← HC0.out, ← HC1.out, ← HZM.out]⟩, below_dn HB2w.out _⟩
      · 
        obtain ⟨_, g, a, m, c', tx, hp, p0, p1, p2, p3, p4, p5⟩ := HB.out.below HB1w.out
        have HI1 : Hid (idx (.int k1) n n = some k1) := by unfold Hid idx; simp only [if_neg hk]
        have HN := Lib.hid (num_arg _ g a m c' tx _ HH2.out hp)
        unfold pv kindOf at HN
        unfold kindOf at p0
        clear hp
        rw [rounds_succ]
        go_wp2_with fail
        refine HN.out.mono ?_
        rintro e wA ⟨vA, rfl, ⟨BA, nA, lA, hsA, hlA, hvA⟩, hbA⟩
        have HBA := Lib.hid (HB1w.out.trans (hbA.mono HB1w.out.size))
        have HKA := Lib.hid (HK1w.out.below hbA HK1w.out.lt)
        have HSA := Lib.hid (spec_int64 BA vA nA lA wA hsA (by omega))
        have hvA' : intOf2 nA lA = k1 := hvA
        rw [hvA'] at HSA
        unfold S64Post at HSA
        clear hvA' p0 p1 p2 p3 p4 p5 hsA hvA hbA HN
        have hk0 : -2147483648 ≤ k1 ∧ k1 ≤ 2147483647 := HH2.out
        rw [if_pos (by omega), decide_eq_true (by omega)] at HSA
        go_wp2_with fail
        refine HSA.out.mono ?_
        rintro e wB ⟨rfl, hbB⟩
        have HBB := Lib.hid (HBA.out.trans (hbB.mono HBA.out.size))
        have HKB := Lib.hid (HKA.out.below hbB HKA.out.lt)
        obtain ⟨_, g, a, m, c', tx, _, p0, p1, p2, p3, p4, p5⟩ := HB.out.below HBB.out
        unfold kindOf at p0
        obtain ⟨b0, b1, b2, b3⟩ := blk_pair HKB.out
        have hd0 : decide (k1 < 0) = false := by simp; omega
        have hd1 : decide ((2147483647 : Int) < k1) = false := by simp; omega
        have hd2 : decide (k1 < -2147483648) = false := by simp; omega
        obtain ⟨z1, hz1⟩ : ∃ z1, z1 = min k1 (n : Int) := ⟨_, rfl⟩
        obtain ⟨z1, hz⟩ : ∃ z, z = max 0 z1 := ⟨_, rfl⟩
        have hz1' := hz1.symm
        have hz' := hz.symm
        have HC1 : Hid (z1 = clampI k1 n) := by unfold Hid; rw [hz, hz1]; unfold clampI; split <;> (try split) <;> omega
        have hzr1 : 0 ≤ z1 ∧ z1 ≤ n := by omega
        clear hz hz1 HSA hbB
        go_wp2_with fail
        clear p0 p1 p2 p3 p4 p5 b0 b1 b2 b3 hd0 hd1 hd2 hz1' hz'
        have HB2w : Hid (Below w.heap.size w (wB.setCell ⟨w.heap.size, 1, none⟩ (.int .i64 z1))) := HBB.out.setCell (p := ⟨w.heap.size, 1, none⟩) (Nat.le_refl _) _
        have HK2w : Hid (Blk (wB.setCell ⟨w.heap.size, 1, none⟩ (.int .i64 z1)) w.heap.size 117 #[.int .i64 (0 : Int), .int .i64 z1]) := HKB.out.put 1 _
        obtain ⟨b0, b1, b2, b3⟩ := blk_pair HK2w.out
        rw [rounds_succ]
        obtain ⟨zm, hzm⟩ : ∃ zm, zm = max (0 : Int) z1 := ⟨_, rfl⟩
        have hzm' := hzm.symm
        have HZM : Hid (zm = max (0 : Int) z1) := hzm
        clear hzm
        go_wp2_with fail
        go_quiet (fail)
        go_wp2
        refine bodyPost_ret (v := .tuple #[.int .i64 (0 : Int), .int .i64 zm, .bool true]) (by simp [results, Tryz.results50, go_sem]) rfl ⟨.inl ⟨_, _, HI0.out, HI1.out, by rw [← HC0.out, ← HC1.out, ← HZM.out]⟩, below_dn HB2w.out _⟩
  | str t =>
    obtain ⟨_, g, a, m, c', tx, hp, p0, p1, p2, p3, p4, p5⟩ := HA.out.below HB0w.out
    have HN := Lib.hid (num_arg _ g a m c' tx _ HH1.out hp)
    unfold pv kindOf at HN
    unfold kindOf at p0
    clear hp
    go_enter Tryz.func50, Tryz.ntmps50
    go_wp2_with fail
    refine wp_loop_rounds 3 ?_
    rw [rounds_succ]
    go_wp2_with fail
    refine HN.out.mono ?_
    rintro e wA ⟨vA, rfl, ⟨BA, nA, lA, hsA, hlA, hvA⟩, hbA⟩
    have HBA := Lib.hid (HB0w.out.trans (hbA.mono HB0w.out.size))
    have HKA := Lib.hid (HK0w.out.below hbA HK0w.out.lt)
    have HSA := Lib.hid (spec_int64 BA vA nA lA wA hsA (by omega))
    have hvA' : intOf2 nA lA = 0 := hvA
    rw [hvA'] at HSA
    unfold S64Post at HSA
    clear hvA' p0 p1 p2 p3 p4 p5 hsA hvA hbA HN
    rw [if_pos (by omega), decide_eq_true (by omega)] at HSA
    go_wp2_with fail
    refine HSA.out.mono ?_
    rintro e wB ⟨rfl, hbB⟩
    have HBB := Lib.hid (HBA.out.trans (hbB.mono HBA.out.size))
    have HKB := Lib.hid (HKA.out.below hbB HKA.out.lt)
    obtain ⟨_, g, a, m, c', tx, _, p0, p1, p2, p3, p4, p5⟩ := HA.out.below HBB.out
    unfold kindOf at p0
    obtain ⟨b0, b1, b2, b3⟩ := blk_pair HKB.out
    clear HSA hbB
    go_wp2_with fail
    refine bodyPost_ret (v := .tuple #[.int .i64 0, .int .i64 0, .bool false]) (by simp [results, Tryz.results50, go_sem]) rfl ⟨.inr ⟨.inl rfl, rfl⟩, HBB.out⟩
  | int k0 =>
    by_cases hk : k0 < 0
    · 
      obtain ⟨_, g, a, m, c', tx, hp, p0, p1, p2, p3, p4, p5⟩ := HA.out.below HB0w.out
      have HI0 : Hid (idx (.int k0) n 0 = some (k0 + (n : Int))) := by unfold Hid idx; simp only [if_pos hk]
      have HN := Lib.hid (num_arg _ g a m c' tx _ HH1.out hp)
      unfold pv kindOf at HN
      unfold kindOf at p0
      clear hp
      go_enter Tryz.func50, Tryz.ntmps50
      go_wp2_with fail
      refine wp_loop_rounds 3 ?_
      rw [rounds_succ]
      go_wp2_with fail
      refine HN.out.mono ?_
      rintro e wA ⟨vA, rfl, ⟨BA, nA, lA, hsA, hlA, hvA⟩, hbA⟩
      have HBA := Lib.hid (HB0w.out.trans (hbA.mono HB0w.out.size))
      have HKA := Lib.hid (HK0w.out.below hbA HK0w.out.lt)
      have HSA := Lib.hid (spec_int64 BA vA nA lA wA hsA (by omega))
      have hvA' : intOf2 nA lA = k0 := hvA
      rw [hvA'] at HSA
      unfold S64Post at HSA
      clear hvA' p0 p1 p2 p3 p4 p5 hsA hvA hbA HN
      have hk0 : -2147483648 ≤ k0 ∧ k0 ≤ 2147483647 := HH1.out
      rw [if_pos (by omega), decide_eq_true (by omega)] at HSA
      go_wp2_with fail
      refine HSA.out.mono ?_
      rintro e wB ⟨rfl, hbB⟩
      have HBB := Lib.hid (HBA.out.trans (hbB.mono HBA.out.size))
      have HKB := Lib.hid (HKA.out.below hbB HKA.out.lt)
      obtain ⟨_, g, a, m, c', tx, _, p0, p1, p2, p3, p4, p5⟩ := HA.out.below HBB.out
      unfold kindOf at p0
      obtain ⟨b0, b1, b2, b3⟩ := blk_pair HKB.out
      have hd0 : decide (k0 < 0) = true := by simp; omega
      have hd1 : decide ((2147483647 : Int) < k0) = false := by simp; omega
      have hd2 : decide (k0 < -2147483648) = false := by simp; omega
      obtain ⟨z1, hz1⟩ : ∃ z1, z1 = min (k0 + (n : Int)) (n : Int) := ⟨_, rfl⟩
      obtain ⟨z0, hz⟩ : ∃ z, z = max 0 z1 := ⟨_, rfl⟩
      have hz1' := hz1.symm
      have hz' := hz.symm
      have HC0 : Hid (z0 = clampI (k0 + (n : Int)) n) := by unfold Hid; rw [hz, hz1]; unfold clampI; split <;> (try split) <;> omega
      have hzr0 : 0 ≤ z0 ∧ z0 ≤ n := by omega
      clear hz hz1 HSA hbB
      go_wp2_with fail
      clear p0 p1 p2 p3 p4 p5 b0 b1 b2 b3 hd0 hd1 hd2 hz1' hz'
      have HB1w : Hid (Below w.heap.size w (wB.setCell ⟨w.heap.size, 0, none⟩ (.int .i64 z0))) := HBB.out.setCell (p := ⟨w.heap.size, 0, none⟩) (Nat.le_refl _) _
      have HK1w : Hid (Blk (wB.setCell ⟨w.heap.size, 0, none⟩ (.int .i64 z0)) w.heap.size 117 #[.int .i64 z0, .int .i64 (n : Int)]) := HKB.out.put 0 _
      cases s2 with
      | none =>
        obtain ⟨_, g, a, m, c', tx, hp, p0, p1, p2, p3, p4, p5⟩ := HB.out.below HB1w.out
        have p0' := p0
        unfold kindOf at p0'
        clear p0 p1 p2 p3 p4 p5 hp
        obtain ⟨b0, b1, b2, b3⟩ := blk_pair HK1w.out
        have HI1 : Hid (idx .none n n = some (n : Int)) := rfl
        have HC1 : Hid ((n : Int) = clampI (n : Int) n) := by unfold Hid clampI; split <;> (try split) <;> omega
        rw [rounds_succ]
        go_wp2_with fail
        clear p0' b0 b1 b2 b3
        have HB2w := Lib.hid HB1w.out
        have HK2w := Lib.hid HK1w.out
        obtain ⟨b0, b1, b2, b3⟩ := blk_pair HK2w.out
        rw [rounds_succ]
        obtain ⟨zm, hzm⟩ : ∃ zm, zm = max z0 (n : Int) := ⟨_, rfl⟩
        have hzm' := hzm.symm
        have HZM : Hid (zm = max z0 (n : Int)) := hzm
        clear hzm
        go_wp2_with fail
        go_quiet (fail)
        go_wp2
        refine bodyPost_ret (v := .tuple #[.int .i64 z0, .int .i64 zm, .bool true]) (by simp [results, Tryz.results50, go_sem]) rfl ⟨.inl ⟨_, _, HI0.out, HI1.out, by rw [← HC0.out, ← HC1.out, ← HZM.out]⟩, below_dn HB2w.out _⟩
      | str t =>
        obtain ⟨_, g, a, m, c', tx, hp, p0, p1, p2, p3, p4, p5⟩ := HB.out.below HB1w.out
        have HN := Lib.hid (num_arg _ g a m c' tx _ HH2.out hp)
        unfold pv kindOf at HN
        unfold kindOf at p0
        clear hp
        rw [rounds_succ]
        go_wp2_with fail
        refine HN.out.mono ?_
        rintro e wA ⟨vA, rfl, ⟨BA, nA, lA, hsA, hlA, hvA⟩, hbA⟩
        have HBA := Lib.hid (HB1w.out.trans (hbA.mono HB1w.out.size))
        have HKA := Lib.hid (HK1w.out.below hbA HK1w.out.lt)
        have HSA := Lib.hid (spec_int64 BA vA nA lA wA hsA (by omega))
        have hvA' : intOf2 nA lA = 0 := hvA
        rw [hvA'] at HSA
        unfold S64Post at HSA
        clear hvA' p0 p1 p2 p3 p4 p5 hsA hvA hbA HN
        rw [if_pos (by omega), decide_eq_true (by omega)] at HSA
        go_wp2_with fail
        refine HSA.out.mono ?_
        rintro e wB ⟨rfl, hbB⟩
        have HBB := Lib.hid (HBA.out.trans (hbB.mono HBA.out.size))
        have HKB := Lib.hid (HKA.out.below hbB HKA.out.lt)
        obtain ⟨_, g, a, m, c', tx, _, p0, p1, p2, p3, p4, p5⟩ := HB.out.below HBB.out
        unfold kindOf at p0
        obtain ⟨b0, b1, b2, b3⟩ := blk_pair HKB.out
        clear HSA hbB
        go_wp2_with fail
        refine bodyPost_ret (v := .tuple #[.int .i64 0, .int .i64 0, .bool false]) (by simp [results, Tryz.results50, go_sem]) rfl ⟨.inr ⟨.inr rfl, rfl⟩, HBB.out⟩
      | int k1 =>
        by_cases hk : k1 < 0
        · 
          obtain ⟨_, g, a, m, c', tx, hp, p0, p1, p2, p3, p4, p5⟩ := HB.out.below HB1w.out
          have HI1 : Hid (idx (.int k1) n n = some (k1 + (n : Int))) := by unfold Hid idx; simp only [if_pos hk]
          have HN := Lib.hid (num_arg _ g a m c' tx _ HH2.out hp)
          unfold pv kindOf at HN
          unfold kindOf at p0
          clear hp
          rw [rounds_succ]
          go_wp2_with fail
          refine HN.out.mono ?_
          rintro e wA ⟨vA, rfl, ⟨BA, nA, lA, hsA, hlA, hvA⟩, hbA⟩
          have HBA := Lib.hid (HB1w.out.trans (hbA.mono HB1w.out.size))
          have HKA := Lib.hid (HK1w.out.below hbA HK1w.out.lt)
          have HSA := Lib.hid (spec_int64 BA vA nA lA wA hsA (by omega))
          have hvA' : intOf2 nA lA = k1 := hvA
          rw [hvA'] at HSA
          unfold S64Post at HSA
          clear hvA' p0 p1 p2 p3 p4 p5 hsA hvA hbA HN
          have hk0 : -2147483648 ≤ k1 ∧ k1 ≤ 2147483647 := HH2.out
          rw [if_pos (by omega), decide_eq_true (by omega)] at HSA
          go_wp2_with fail
          refine HSA.out.mono ?_
          rintro e wB ⟨rfl, hbB⟩
          have HBB := Lib.hid (HBA.out.trans (hbB.mono HBA.out.size))
          have HKB := Lib.hid (HKA.out.below hbB HKA.out.lt)
          obtain ⟨_, g, a, m, c', tx, _, p0, p1, p2, p3, p4, p5⟩ := HB.out.below HBB.out
          unfold kindOf at p0
          obtain ⟨b0, b1, b2, b3⟩ := blk_pair HKB.out
          have hd0 : decide (k1 < 0) = true := by simp; omega
          have hd1 : decide ((2147483647 : Int) < k1) = false := by simp; omega
          have hd2 : decide (k1 < -2147483648) = false := by simp; omega
          obtain ⟨z1, hz1⟩ : ∃ z1, z1 = min (k1 + (n : Int)) (n : Int) := ⟨_, rfl⟩
          obtain ⟨z1, hz⟩ : ∃ z, z = max 0 z1 := ⟨_, rfl⟩
          have hz1' := hz1.symm
          have hz' := hz.symm
          have HC1 : Hid (z1 = clampI (k1 + (n : Int)) n) := by unfold Hid; rw [hz, hz1]; unfold clampI; split <;> (try split) <;> omega
          have hzr1 : 0 ≤ z1 ∧ z1 ≤ n := by omega
          clear hz hz1 HSA hbB
          go_wp2_with fail
          clear p0 p1 p2 p3 p4 p5 b0 b1 b2 b3 hd0 hd1 hd2 hz1' hz'
          have HB2w : Hid (Below w.heap.size w (wB.setCell ⟨w.heap.size, 1, none⟩ (.int .i64 z1))) := HBB.out.setCell (p := ⟨w.heap.size, 1, none⟩) (Nat.le_refl _) _
          have HK2w : Hid (Blk (wB.setCell ⟨w.heap.size, 1, none⟩ (.int .i64 z1)) w.heap.size 117 #[.int .i64 z0, .int .i64 z1]) := HKB.out.put 1 _
          obtain ⟨b0, b1, b2, b3⟩ := blk_pair HK2w.out
          rw [rounds_succ]
          obtain ⟨zm, hzm⟩ : ∃ zm, zm = max z0 z1 := ⟨_, rfl⟩
          have hzm' := hzm.symm
          have HZM : Hid (zm = max z0 z1) := hzm
          clear hzm
          go_wp2_with fail
          go_quiet (fail)
          go_wp2
          refine bodyPost_ret (v := .tuple #[.int .i64 z0, .int .i64 zm, .bool true]) (by simp [results, Tryz.results50, go_sem]) rfl ⟨.inl ⟨_, _, HI0.out, HI1.out, by rw [← HC0.out, ← HC1.out, ← HZM.out]⟩, below_dn HB2w.out _⟩
        · 
          obtain ⟨_, g, a, m, c', tx, hp, p0, p1, p2, p3, p4, p5⟩ := HB.out.below HB1w.out
          have HI1 : Hid (idx (.int k1) n n = some k1) := by unfold Hid idx; simp only [if_neg hk]
          have HN := Lib.hid (num_arg _ g a m c' tx _ HH2.out hp)
          unfold pv kindOf at HN
          unfold kindOf at p0
          clear hp
          rw [rounds_succ]
          go_wp2_with fail
          refine HN.out.mono ?_
          rintro e wA ⟨vA, rfl, ⟨BA, nA, lA, hsA, hlA, hvA⟩, hbA⟩
          have HBA := Lib.hid (HB1w.out.trans (hbA.mono HB1w.out.size))
          have HKA := Lib.hid (HK1w.out.below hbA HK1w.out.lt)
          have HSA := Lib.hid (spec_int64 BA vA nA lA wA hsA (by omega))
          have hvA' : intOf2 nA lA = k1 := hvA
          rw [hvA'] at HSA
          unfold S64Post at HSA
          clear hvA' p0 p1 p2 p3 p4 p5 hsA hvA hbA HN
          have hk0 : -2147483648 ≤ k1 ∧ k1 ≤ 2147483647 := HH2.out
          rw [if_pos (by omega), decide_eq_true (by omega)] at HSA
          go_wp2_with fail
          refine HSA.out.mono ?_
          rintro e wB ⟨rfl, hbB⟩
          have HBB := Lib.hid (HBA.out.trans (hbB.mono HBA.out.size))
          have HKB := Lib.hid (HKA.out.below hbB HKA.out.lt)
          obtain ⟨_, g, a, m, c', tx, _, p0, p1, p2, p3, p4, p5⟩ := HB.out.below HBB.out
          unfold kindOf at p0
          obtain ⟨b0, b1, b2, b3⟩ := blk_pair HKB.out
          have hd0 : decide (k1 < 0) = false := by simp; omega
          have hd1 : decide ((2147483647 : Int) < k1) = false := by simp; omega
          have hd2 : decide (k1 < -2147483648) = false := by simp; omega
          obtain ⟨z1, hz1⟩ : ∃ z1, z1 = min k1 (n : Int) := ⟨_, rfl⟩
          obtain ⟨z1, hz⟩ : ∃ z, z = max 0 z1 := ⟨_, rfl⟩
          have hz1' := hz1.symm
          have hz' := hz.symm
          have HC1 : Hid (z1 = clampI k1 n) := by unfold Hid; rw [hz, hz1]; unfold clampI; split <;> (try split) <;> omega
          have hzr1 : 0 ≤ z1 ∧ z1 ≤ n := by omega
          clear hz hz1 HSA hbB
          go_wp2_with fail
          clear p0 p1 p2 p3 p4 p5 b0 b1 b2 b3 hd0 hd1 hd2 hz1' hz'
          have HB2w : Hid (Below w.heap.size w (wB.setCell ⟨w.heap.size, 1, none⟩ (.int .i64 z1))) := HBB.out.setCell (p := ⟨w.heap.size, 1, none⟩) (Nat.le_refl _) _
          have HK2w : Hid (Blk (wB.setCell ⟨w.heap.size, 1, none⟩ (.int .i64 z1)) w.heap.size 117 #[.int .i64 z0, .int .i64 z1]) := HKB.out.put 1 _
          obtain ⟨b0, b1, b2, b3⟩ := blk_pair HK2w.out
          rw [rounds_succ]
          obtain ⟨zm, hzm⟩ : ∃ zm, zm = max z0 z1 := ⟨_, rfl⟩
          have hzm' := hzm.symm
          have HZM : Hid (zm = max z0 z1) := hzm
          clear hzm
          go_wp2_with fail
          go_quiet (fail)
          go_wp2
          refine bodyPost_ret (v := .tuple #[.int .i64 z0, .int .i64 zm, .bool true]) (by simp [results, Tryz.results50, go_sem]) rfl ⟨.inl ⟨_, _, HI0.out, HI1.out, by rw [← HC0.out, ← HC1.out, ← HZM.out]⟩, below_dn HB2w.out _⟩
    · 
      obtain ⟨_, g, a, m, c', tx, hp, p0, p1, p2, p3, p4, p5⟩ := HA.out.below HB0w.out
      have HI0 : Hid (idx (.int k0) n 0 = some k0) := by unfold Hid idx; simp only [if_neg hk]
      have HN := Lib.hid (num_arg _ g a m c' tx _ HH1.out hp)
      unfold pv kindOf at HN
      unfold kindOf at p0
      clear hp
      go_enter Tryz.func50, Tryz.ntmps50
      go_wp2_with fail
      refine wp_loop_rounds 3 ?_
      rw [rounds_succ]
      go_wp2_with fail
      refine HN.out.mono ?_
      rintro e wA ⟨vA, rfl, ⟨BA, nA, lA, hsA, hlA, hvA⟩, hbA⟩
      have HBA := Lib.hid (HB0w.out.trans (hbA.mono HB0w.out.size))
      have HKA := Lib.hid (HK0w.out.below hbA HK0w.out.lt)
      have HSA := Lib.hid (spec_int64 BA vA nA lA wA hsA (by omega))
      have hvA' : intOf2 nA lA = k0 := hvA
      rw [hvA'] at HSA
      unfold S64Post at HSA
      clear hvA' p0 p1 p2 p3 p4 p5 hsA hvA hbA HN
      have hk0 : -2147483648 ≤ k0 ∧ k0 ≤ 2147483647 := HH1.out
      rw [if_pos (by omega), decide_eq_true (by omega)] at HSA
      go_wp2_with fail
      refine HSA.out.mono ?_
      rintro e wB ⟨rfl, hbB⟩
      have HBB := Lib.hid (HBA.out.trans (hbB.mono HBA.out.size))
      have HKB := Lib.hid (HKA.out.below hbB HKA.out.lt)
      obtain ⟨_, g, a, m, c', tx, _, p0, p1, p2, p3, p4, p5⟩ := HA.out.below HBB.out
      unfold kindOf at p0
      obtain ⟨b0, b1, b2, b3⟩ := blk_pair HKB.out
      have hd0 : decide (k0 < 0) = false := by simp; omega
      have hd1 : decide ((2147483647 : Int) < k0) = false := by simp; omega
      have hd2 : decide (k0 < -2147483648) = false := by simp; omega
      obtain ⟨z1, hz1⟩ : ∃ z1, z1 = min k0 (n : Int) := ⟨_, rfl⟩
      obtain ⟨z0, hz⟩ : ∃ z, z = max 0 z1 := ⟨_, rfl⟩
      have hz1' := hz1.symm
      have hz' := hz.symm
      have HC0 : Hid (z0 = clampI k0 n) := by unfold Hid; rw [hz, hz1]; unfold clampI; split <;> (try split) <;> omega
      have hzr0 : 0 ≤ z0 ∧ z0 ≤ n := by omega
      clear hz hz1 HSA hbB
      go_wp2_with fail
      clear p0 p1 p2 p3 p4 p5 b0 b1 b2 b3 hd0 hd1 hd2 hz1' hz'
      have HB1w : Hid (Below w.heap.size w (wB.setCell ⟨w.heap.size, 0, none⟩ (.int .i64 z0))) := HBB.out.setCell (p := ⟨w.heap.size, 0, none⟩) (Nat.le_refl _) _
      have HK1w : Hid (Blk (wB.setCell ⟨w.heap.size, 0, none⟩ (.int .i64 z0)) w.heap.size 117 #[.int .i64 z0, .int .i64 (n : Int)]) := HKB.out.put 0 _
      cases s2 with
      | none =>
        obtain ⟨_, g, a, m, c', tx, hp, p0, p1, p2, p3, p4, p5⟩ := HB.out.below HB1w.out
        have p0' := p0
        unfold kindOf at p0'
        clear p0 p1 p2 p3 p4 p5 hp
        obtain ⟨b0, b1, b2, b3⟩ := blk_pair HK1w.out
        have HI1 : Hid (idx .none n n = some (n : Int)) := rfl
        have HC1 : Hid ((n : Int) = clampI (n : Int) n) := by unfold Hid clampI; split <;> (try split) <;> omega
        rw [rounds_succ]
        go_wp2_with fail
        clear p0' b0 b1 b2 b3
        have HB2w := Lib.hid HB1w.out
        have HK2w := Lib.hid HK1w.out
        obtain ⟨b0, b1, b2, b3⟩ := blk_pair HK2w.out
        rw [rounds_succ]
        obtain ⟨zm, hzm⟩ : ∃ zm, zm = max z0 (n : Int) := ⟨_, rfl⟩
        have hzm' := hzm.symm
        have HZM : Hid (zm = max z0 (n : Int)) := hzm
        clear hzm
        go_wp2_with fail
        go_quiet (fail)
        go_wp2
        refine bodyPost_ret (v := .tuple #[.int .i64 z0, .int .i64 zm, .bool true]) (by simp [results, Tryz.results50, go_sem]) rfl ⟨.inl ⟨_, _, HI0.out, HI1.out, by rw [← HC0.out, ← HC1.out, ← HZM.out]⟩, below_dn HB2w.out _⟩
      | str t =>
        obtain ⟨_, g, a, m, c', tx, hp, p0, p1, p2, p3, p4, p5⟩ := HB.out.below HB1w.out
        have HN := Lib.hid (num_arg _ g a m c' tx _ HH2.out hp)
        unfold pv kindOf at HN
        unfold kindOf at p0
        clear hp
        rw [rounds_succ]
        go_wp2_with fail
        refine HN.out.mono ?_
        rintro e wA ⟨vA, rfl, ⟨BA, nA, lA, hsA, hlA, hvA⟩, hbA⟩
        have HBA := Lib.hid (HB1w.out.trans (hbA.mono HB1w.out.size))
        have HKA := Lib.hid (HK1w.out.below hbA HK1w.out.lt)
        have HSA := Lib.hid (spec_int64 BA vA nA lA wA hsA (by omega))
        have hvA' : intOf2 nA lA = 0 := hvA
        rw [hvA'] at HSA
        unfold S64Post at HSA
        clear hvA' p0 p1 p2 p3 p4 p5 hsA hvA hbA HN
        rw [if_pos (by omega), decide_eq_true (by omega)] at HSA
        go_wp2_with fail
        refine HSA.out.mono ?_
        rintro e wB ⟨rfl, hbB⟩
        have HBB := Lib.hid (HBA.out.trans (hbB.mono HBA.out.size))
        have HKB := Lib.hid (HKA.out.below hbB HKA.out.lt)
        obtain ⟨_, g, a, m, c', tx, _, p0, p1, p2, p3, p4, p5⟩ := HB.out.below HBB.out
        unfold kindOf at p0
        obtain ⟨b0, b1, b2, b3⟩ := blk_pair HKB.out
        clear HSA hbB
        go_wp2_with fail
        refine bodyPost_ret (v := .tuple #[.int .i64 0, .int .i64 0, .bool false]) (by simp [results, Tryz.results50, go_sem]) rfl ⟨.inr ⟨.inr rfl, rfl⟩, HBB.out⟩
      | int k1 =>
        by_cases hk : k1 < 0
        · 
          obtain ⟨_, g, a, m, c', tx, hp, p0, p1, p2, p3, p4, p5⟩ := HB.out.below HB1w.out
          have HI1 : Hid (idx (.int k1) n n = some (k1 + (n : Int))) := by unfold Hid idx; simp only [if_pos hk]
          have HN := Lib.hid (num_arg _ g a m c' tx _ HH2.out hp)
          unfold pv kindOf at HN
          unfold kindOf at p0
          clear hp
          rw [rounds_succ]
          go_wp2_with fail
          refine HN.out.mono ?_
          rintro e wA ⟨vA, rfl, ⟨BA, nA, lA, hsA, hlA, hvA⟩, hbA⟩
          have HBA := Lib.hid (HB1w.out.trans (hbA.mono HB1w.out.size))
          have HKA := Lib.hid (HK1w.out.below hbA HK1w.out.lt)
          have HSA := Lib.hid (spec_int64 BA vA nA lA wA hsA (by omega))
          have hvA' : intOf2 nA lA = k1 := hvA
          rw [hvA'] at HSA
          unfold S64Post at HSA
          clear hvA' p0 p1 p2 p3 p4 p5 hsA hvA hbA HN
          have hk0 : -2147483648 ≤ k1 ∧ k1 ≤ 2147483647 := HH2.out
          rw [if_pos (by omega), decide_eq_true (by omega)] at HSA
          go_wp2_with fail
          refine HSA.out.mono ?_
          rintro e wB ⟨rfl, hbB⟩
          have HBB := Lib.hid (HBA.out.trans (hbB.mono HBA.out.size))
          have HKB := Lib.hid (HKA.out.below hbB HKA.out.lt)
          obtain ⟨_, g, a, m, c', tx, _, p0, p1, p2, p3, p4, p5⟩ := HB.out.below HBB.out
          unfold kindOf at p0
          obtain ⟨b0, b1, b2, b3⟩ := blk_pair HKB.out
          have hd0 : decide (k1 < 0) = true := by simp; omega
          have hd1 : decide ((2147483647 : Int) < k1) = false := by simp; omega
          have hd2 : decide (k1 < -2147483648) = false := by simp; omega
          obtain ⟨z1, hz1⟩ : ∃ z1, z1 = min (k1 + (n : Int)) (n : Int) := ⟨_, rfl⟩
          obtain ⟨z1, hz⟩ : ∃ z, z = max 0 z1 := ⟨_, rfl⟩
          have hz1' := hz1.symm
          have hz' := hz.symm
          have HC1 : Hid (z1 = clampI (k1 + (n : Int)) n) := by unfold Hid; rw [hz, hz1]; unfold clampI; split <;> (try split) <;> omega
          have hzr1 : 0 ≤ z1 ∧ z1 ≤ n := by omega
          clear hz hz1 HSA hbB
          go_wp2_with fail
          clear p0 p1 p2 p3 p4 p5 b0 b1 b2 b3 hd0 hd1 hd2 hz1' hz'
          have HB2w : Hid (Below w.heap.size w (wB.setCell ⟨w.heap.size, 1, none⟩ (.int .i64 z1))) := HBB.out.setCell (p := ⟨w.heap.size, 1, none⟩) (Nat.le_refl _) _
          have HK2w : Hid (Blk (wB.setCell ⟨w.heap.size, 1, none⟩ (.int .i64 z1)) w.heap.size 117 #[.int .i64 z0, .int .i64 z1]) := HKB.out.put 1 _
          obtain ⟨b0, b1, b2, b3⟩ := blk_pair HK2w.out
          rw [rounds_succ]
          obtain ⟨zm, hzm⟩ : ∃ zm, zm = max z0 z1 := ⟨_, rfl⟩
          have hzm' := hzm.symm
          have HZM : Hid (zm = max z0 z1) := hzm
          clear hzm
          go_wp2_with fail
          go_quiet (fail)
          go_wp2
          refine bodyPost_ret (v := .tuple #[.int .i64 z0, .int .i64 zm, .bool true]) (by simp [results, Tryz.results50, go_sem]) rfl ⟨.inl ⟨_, _, HI0.out, HI1.out, by rw [← HC0.out, ← HC1.out, ← HZM.out]⟩, below_dn HB2w.out _⟩
        · 
          obtain ⟨_, g, a, m, c', tx, hp, p0, p1, p2, p3, p4, p5⟩ := HB.out.below HB1w.out
          have HI1 : Hid (idx (.int k1) n n = some k1) := by unfold Hid idx; simp only [if_neg hk]
          have HN := Lib.hid (num_arg _ g a m c' tx _ HH2.out hp)
          unfold pv kindOf at HN
          unfold kindOf at p0
          clear hp
          rw [rounds_succ]
          go_wp2_with fail
          refine HN.out.mono ?_
          rintro e wA ⟨vA, rfl, ⟨BA, nA, lA, hsA, hlA, hvA⟩, hbA⟩
          have HBA := Lib.hid (HB1w.out.trans (hbA.mono HB1w.out.size))
          have HKA := Lib.hid (HK1w.out.below hbA HK1w.out.lt)
          have HSA := Lib.hid (spec_int64 BA vA nA lA wA hsA (by omega))
          have hvA' : intOf2 nA lA = k1 := hvA
          rw [hvA'] at HSA
          unfold S64Post at HSA
          clear hvA' p0 p1 p2 p3 p4 p5 hsA hvA hbA HN
          have hk0 : -2147483648 ≤ k1 ∧ k1 ≤ 2147483647 := HH2.out
          rw [if_pos (by omega), decide_eq_true (by omega)] at HSA
          go_wp2_with fail
          refine HSA.out.mono ?_
          rintro e wB ⟨rfl, hbB⟩
          have HBB := Lib.hid (HBA.out.trans (hbB.mono HBA.out.size))
          have HKB := Lib.hid (HKA.out.below hbB HKA.out.lt)
          obtain ⟨_, g, a, m, c', tx, _, p0, p1, p2, p3, p4, p5⟩ := HB.out.below HBB.out
          unfold kindOf at p0
          obtain ⟨b0, b1, b2, b3⟩ := blk_pair HKB.out
          have hd0 : decide (k1 < 0) = false := by simp; omega
          have hd1 : decide ((2147483647 : Int) < k1) = false := by simp; omega
          have hd2 : decide (k1 < -2147483648) = false := by simp; omega
          obtain ⟨z1, hz1⟩ : ∃ z1, z1 = min k1 (n : Int) := ⟨_, rfl⟩
          obtain ⟨z1, hz⟩ : ∃ z, z = max 0 z1 := ⟨_, rfl⟩
          have hz1' := hz1.symm
          have hz' := hz.symm
          have HC1 : Hid (z1 = clampI k1 n) := by unfold Hid; rw [hz, hz1]; unfold clampI; split <;> (try split) <;> omega
          have hzr1 : 0 ≤ z1 ∧ z1 ≤ n := by omega
          clear hz hz1 HSA hbB
          go_wp2_with fail
          clear p0 p1 p2 p3 p4 p5 b0 b1 b2 b3 hd0 hd1 hd2 hz1' hz'
          have HB2w : Hid (Below w.heap.size w (wB.setCell ⟨w.heap.size, 1, none⟩ (.int .i64 z1))) := HBB.out.setCell (p := ⟨w.heap.size, 1, none⟩) (Nat.le_refl _) _
          have HK2w : Hid (Blk (wB.setCell ⟨w.heap.size, 1, none⟩ (.int .i64 z1)) w.heap.size 117 #[.int .i64 z0, .int .i64 z1]) := HKB.out.put 1 _
          obtain ⟨b0, b1, b2, b3⟩ := blk_pair HK2w.out
          rw [rounds_succ]
          obtain ⟨zm, hzm⟩ : ∃ zm, zm = max z0 z1 := ⟨_, rfl⟩
          have hzm' := hzm.symm
          have HZM : Hid (zm = max z0 z1) := hzm
          clear hzm
          go_wp2_with fail
          go_quiet (fail)
          go_wp2
          refine bodyPost_ret (v := .tuple #[.int .i64 z0, .int .i64 zm, .bool true]) (by simp [results, Tryz.results50, go_sem]) rfl ⟨.inl ⟨_, _, HI0.out, HI1.out, by rw [← HC0.out, ← HC1.out, ← HZM.out]⟩, below_dn HB2w.out _⟩
end Go.Proofs.YthoemgnfklhgjaaGreat
