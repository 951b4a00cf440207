/- The reference asked for a count; the number of a value. -/
import Derived.Test.YthoemgnfklhgjaaGreatFound
namespace Go.Proofs.YthoemgnfklhgjaaGreat
open Go.RowKit
attribute [local go_sem ↓] Go.wp_at_zero Go.wp_at_succ
set_option maxRecDepth 100000 in
set_option maxHeartbeats 4000000 in
theorem method_any (s t : ByteArray) (s1 s2 : Sc) (S : Nat) (w : World) (hs : s.size ≤ 60) (ht : t.size ≤ 60) (h1 : s1.ok) (h2 : s2.ok)
    (h0 : w.cell? ⟨S, 0, none⟩ = some (.int .i64 4) ∧ w.cell? ⟨S, 4, none⟩ = some (.string t)) (ha : ArgAt w S 6 s1) (hb : ArgAt w S 12 s2) :
    Calls Tryz.prog 15 #[.string s, .string ⟨#[99, 111, 117, 110, 116]⟩, .slice (some ⟨S, 0, none⟩) 3 3] w (FoundPost (countR s t s1 s2) w) := by
  have hSl := ha.1
  have HB0 := Lib.hid ((Below.refl w.heap.size w).alloc (Nat.le_refl _) (.cells #[.int .i64 0, .bool false, .slice none 0 0, .int .u64 0, .string ⟨#[]⟩, .slice none 0 0] 26))
  have HK0 := Lib.hid (Blk.new w 26 #[.int .i64 0, .bool false, .slice none 0 0, .int .u64 0, .string ⟨#[]⟩, .slice none 0 0])
  have HF := Lib.hid (found_any s t s1 s2 S _ hs ht h1 h2 ⟨(HB0.out.cell (p := ⟨S, 0, none⟩) hSl).trans h0.1, (HB0.out.cell (p := ⟨S, 4, none⟩) hSl).trans h0.2⟩ (ha.below HB0.out) (hb.below HB0.out))
  clear ha hb h1 h2 h0
  go_enter Tryz.func15, Tryz.ntmps15
  go_wp2_with fail
  refine HF.out.mono ?_
  rintro e w1 ⟨hr, hb1⟩
  have HB1 := Lib.hid (HB0.out.trans (hb1.mono HB0.out.size))
  have hk1 := HK0.out.below hb1 HK0.out.lt
  obtain ⟨c0, c1, c2, c3, c4, c5, f0, f1, f2, f3, f4, f5⟩ := blk6 hk1
  clear hb1 hk1
  rcases hr with ⟨m, v, neg, l, hm, rfl, ⟨vs, hv, ho, hh, hng⟩, hn⟩ | ⟨hno, rfl⟩
  · obtain ⟨g, cc, hvs, hg1, _, _, _⟩ := ho.form
    obtain ⟨r, hr⟩ : ∃ r, r = l.length := ⟨_, rfl⟩
    rw [← hr] at hvs
    subst hvs
    subst hv
    have hg2 : w.heap.size + 1 ≤ g := by simpa using hg1
    have HO := Lib.hid ho
    have HHD := Lib.hid hh
    have HNG := Lib.hid hng
    have HM := Lib.hid hm
    have HN := Lib.hid hn
    clear ho hh hng hm hn hr hg1
    go_wp2
    refine bodyPost_ret (v := .tuple #[.agg #[.int .i64 2, .bool neg, .slice (some ⟨g, 0, none⟩) r cc, .int .u64 0, .string ⟨#[]⟩, .slice none 0 0], .bool true]) (by simp [results, Tryz.results15, go_sem, c0, c1, c2, c3, c4, c5]) rfl ⟨.inl ⟨m, _, neg, l, HM.out, rfl, ⟨.slice (some ⟨g, 0, none⟩) r cc, rfl, ?_, HHD.out, HNG.out⟩, HN.out⟩, ?_⟩
    · exact (HO.out.only (six_set w1 w.heap.size (.int .i64 2) (.bool neg) (.slice (some ⟨g, 0, none⟩) r cc) (.int .u64 0) (.string ⟨#[]⟩) (.slice none 0 0)) (fun k hk e => by simp at hk; omega)).base (by simp)
    · exact HB1.out.trans ((six_set w1 w.heap.size (.int .i64 2) (.bool neg) (.slice (some ⟨g, 0, none⟩) r cc) (.int .u64 0) (.string ⟨#[]⟩) (.slice none 0 0)).to_below HB1.out.size (fun k _ e => by omega))
  · have HNO := Lib.hid hno
    clear hno
    unfold pNone
    go_wp2
    refine bodyPost_ret (v := .tuple #[pNone, .bool false]) (by simp [results, Tryz.results15, go_sem, pNone, c0, c1, c2, c3, c4, c5]) rfl ⟨.inr ⟨HNO.out, rfl⟩, ?_⟩
    exact HB1.out.trans ((six_set w1 w.heap.size (.int .i64 0) (.bool false) (.slice none 0 0) (.int .u64 0) (.string ⟨#[]⟩) (.slice none 0 0)).to_below HB1.out.size (fun k _ e => by omega))
def AskedPost (r : Option Nat) (w : World) (e : Ending) (w' : World) : Prop :=
  ((∃ (m : Nat) (v : Value) (neg : Bool) (l : List Nat), r = some m ∧ e = .returned (.tuple #[v, .slice none 0 0, .bool true]) ∧ IVal w' w.heap.size v neg l ∧ intOf2 neg l = (m : Int)) ∨ (r = none ∧ e = .returned (.tuple #[pNone, .slice none 0 0, .bool false]))) ∧ Below w.heap.size w w'
set_option maxRecDepth 100000 in
set_option maxHeartbeats 4000000 in
theorem asked_any (s t : ByteArray) (s1 s2 : Sc) (S : Nat) (w : World) (hs : s.size ≤ 60) (ht : t.size ≤ 60) (h1 : s1.ok) (h2 : s2.ok)
    (h0 : w.cell? ⟨S, 0, none⟩ = some (.int .i64 4) ∧ w.cell? ⟨S, 4, none⟩ = some (.string t)) (ha : ArgAt w S 6 s1) (hb : ArgAt w S 12 s2) :
    Calls Tryz.prog 7 #[.string s, .string ⟨#[99, 111, 117, 110, 116]⟩, .slice (some ⟨S, 0, none⟩) 3 3] w (AskedPost (countR s t s1 s2) w) := by
  have hSl := ha.1
  have HB0 := Lib.hid ((Below.refl w.heap.size w).alloc (Nat.le_refl _) (.cells #[.int .i64 0, .bool false, .slice none 0 0, .int .u64 0, .string ⟨#[]⟩, .slice none 0 0] 26))
  have HK0 := Lib.hid (Blk.new w 26 #[.int .i64 0, .bool false, .slice none 0 0, .int .u64 0, .string ⟨#[]⟩, .slice none 0 0])
  have HF := Lib.hid (method_any s t s1 s2 S _ hs ht h1 h2 ⟨(HB0.out.cell (p := ⟨S, 0, none⟩) hSl).trans h0.1, (HB0.out.cell (p := ⟨S, 4, none⟩) hSl).trans h0.2⟩ (ha.below HB0.out) (hb.below HB0.out))
  clear ha hb h1 h2 h0
  go_enter Tryz.func7, Tryz.ntmps7
  go_wp2_with fail
  refine HF.out.mono ?_
  rintro e w1 ⟨hr, hb1⟩
  have HB1 := Lib.hid (HB0.out.trans (hb1.mono HB0.out.size))
  have hk1 := HK0.out.below hb1 HK0.out.lt
  obtain ⟨c0, c1, c2, c3, c4, c5, f0, f1, f2, f3, f4, f5⟩ := blk6 hk1
  have HKA := Lib.hid (HK0.out.below hb1 HK0.out.lt)
  clear hb1 hk1
  rcases hr with ⟨m, v, neg, l, hm, rfl, ⟨vs, hv, ho, hh, hng⟩, hn⟩ | ⟨hno, rfl⟩
  · obtain ⟨g, cc, hvs, hg1, _, _, _⟩ := ho.form
    obtain ⟨r, hr⟩ : ∃ r, r = l.length := ⟨_, rfl⟩
    rw [← hr] at hvs
    subst hvs
    subst hv
    have hg2 : w.heap.size + 1 ≤ g := by simpa using hg1
    have HO := Lib.hid ho
    have HHD := Lib.hid hh
    have HNG := Lib.hid hng
    have HM := Lib.hid hm
    have HN := Lib.hid hn
    clear ho hh hng hm hn hr hg1
    go_wp2_with fail
    obtain ⟨w2, hw2⟩ : ∃ w2, w2 = ((((((w1.setCell ⟨w.heap.size, 0, none⟩ (.int .i64 2)).setCell ⟨w.heap.size, 1, none⟩ (.bool neg)).setCell ⟨w.heap.size, 2, none⟩ (.slice (some ⟨g, 0, none⟩) r cc)).setCell ⟨w.heap.size, 3, none⟩ (.int .u64 0)).setCell ⟨w.heap.size, 4, none⟩ (.string ⟨#[]⟩)).setCell ⟨w.heap.size, 5, none⟩ (.slice none 0 0)) := ⟨_, rfl⟩
    rw [← hw2]
    have hk2 : Blk w2 w.heap.size 26 #[.int .i64 2, .bool neg, .slice (some ⟨g, 0, none⟩) r cc, .int .u64 0, .string ⟨#[]⟩, .slice none 0 0] := by rw [hw2]; exact ((((((HKA.out.put 0 (.int .i64 2)).put 1 (.bool neg)).put 2 (.slice (some ⟨g, 0, none⟩) r cc)).put 3 (.int .u64 0)).put 4 (.string ⟨#[]⟩)).put 5 (.slice none 0 0))
    have hO1 : Only (· = w.heap.size) w1 w2 := by rw [hw2]; exact six_set w1 w.heap.size (.int .i64 2) (.bool neg) (.slice (some ⟨g, 0, none⟩) r cc) (.int .u64 0) (.string ⟨#[]⟩) (.slice none 0 0)
    have HO1 := Lib.hid hO1
    clear hw2 hO1 c0 c1 c2 c3 c4 c5 f0 f1 f2 f3 f4 f5
    obtain ⟨c0, c1, c2, c3, c4, c5, f0, f1, f2, f3, f4, f5⟩ := blk6 hk2
    clear hk2
    refine wp_loop_rounds 1 ?_
    rw [rounds_succ]
    go_wp2
    have hO2 := HO1.out.trans (six_set w2 w.heap.size (.int .i64 2) (.bool neg) (.slice (some ⟨g, 0, none⟩) r cc) (.int .u64 0) (.string ⟨#[]⟩) (.slice none 0 0))
    refine bodyPost_ret (v := .tuple #[.agg #[.int .i64 2, .bool neg, .slice (some ⟨g, 0, none⟩) r cc, .int .u64 0, .string ⟨#[]⟩, .slice none 0 0], .slice none 0 0, .bool true]) (by simp [results, Tryz.results7, go_sem, c0, c1, c2, c3, c4, c5]) rfl ⟨.inl ⟨m, _, neg, l, HM.out, rfl, ⟨.slice (some ⟨g, 0, none⟩) r cc, rfl, ?_, HHD.out, HNG.out⟩, HN.out⟩, ?_⟩
    · exact (HO.out.only hO2 (fun k hk e => by simp at hk; omega)).base (by simp)
    · exact HB1.out.trans (hO2.to_below HB1.out.size (fun k _ e => by omega))
  · have HNO := Lib.hid hno
    clear hno
    unfold pNone
    go_wp2_with fail
    obtain ⟨w2, hw2⟩ : ∃ w2, w2 = ((((((w1.setCell ⟨w.heap.size, 0, none⟩ (.int .i64 0)).setCell ⟨w.heap.size, 1, none⟩ (.bool false)).setCell ⟨w.heap.size, 2, none⟩ (.slice none 0 0)).setCell ⟨w.heap.size, 3, none⟩ (.int .u64 0)).setCell ⟨w.heap.size, 4, none⟩ (.string ⟨#[]⟩)).setCell ⟨w.heap.size, 5, none⟩ (.slice none 0 0)) := ⟨_, rfl⟩
    rw [← hw2]
    have hk2 : Blk w2 w.heap.size 26 #[.int .i64 0, .bool false, .slice none 0 0, .int .u64 0, .string ⟨#[]⟩, .slice none 0 0] := by rw [hw2]; exact ((((((HKA.out.put 0 (.int .i64 0)).put 1 (.bool false)).put 2 (.slice none 0 0)).put 3 (.int .u64 0)).put 4 (.string ⟨#[]⟩)).put 5 (.slice none 0 0))
    have hO1 : Only (· = w.heap.size) w1 w2 := by rw [hw2]; exact six_set w1 w.heap.size (.int .i64 0) (.bool false) (.slice none 0 0) (.int .u64 0) (.string ⟨#[]⟩) (.slice none 0 0)
    have HO1 := Lib.hid hO1
    clear hw2 hO1 c0 c1 c2 c3 c4 c5 f0 f1 f2 f3 f4 f5
    obtain ⟨c0, c1, c2, c3, c4, c5, f0, f1, f2, f3, f4, f5⟩ := blk6 hk2
    clear hk2
    refine wp_loop_rounds 1 ?_
    rw [rounds_succ]
    go_wp2
    have hO2 := HO1.out.trans (six_set w2 w.heap.size (.int .i64 0) (.bool false) (.slice none 0 0) (.int .u64 0) (.string ⟨#[]⟩) (.slice none 0 0))
    refine bodyPost_ret (v := .tuple #[pNone, .slice none 0 0, .bool false]) (by simp [results, Tryz.results7, go_sem, pNone, c0, c1, c2, c3, c4, c5]) rfl ⟨.inr ⟨HNO.out, rfl⟩, ?_⟩
    exact HB1.out.trans (hO2.to_below HB1.out.size (fun k _ e => by omega))
/-- A value's number. -/
theorem number_of (B : Nat) (v : Value) (neg : Bool) (l : List Nat) (m : Nat) (w : World) (hv : IVal w B v neg l) (hm : intOf2 neg l = (m : Int)) (hb : m ≤ 1000) :
    Calls Tryz.prog 10 #[v] w fun e w' => e = .returned (.int .i64 (m : Int)) ∧ Below w.heap.size w w' := by
  have hp : PVal w 0 v (.int (m : Int)) := ⟨neg, l, hv.base (Nat.zero_le _), hm⟩
  obtain ⟨n1, a1, m1, c1, x1, rfl⟩ := hp.pv
  have hb0 := (Below.refl w.heap.size w).alloc (Nat.le_refl _) (.cells #[.int .i64 2, .bool n1, .slice a1 m1 c1, .int .u64 0, .string x1, .slice none 0 0] 26)
  have HB0 := Lib.hid hb0
  have HN := Lib.hid (num_arg (.int (m : Int)) n1 a1 m1 c1 x1 _ (by show -2147483648 ≤ (m : Int) ∧ (m : Int) ≤ 2147483647; omega) (hp.below hb0))
  clear hv hm hp hb0
  unfold pv kindOf at HN ⊢
  go_enter Tryz.func10, Tryz.ntmps10
  go_wp2_with fail
  refine HN.out.mono ?_
  rintro e wA ⟨vA, rfl, ⟨BA, nA, lA, hsA, hlA, hvA⟩, hbA⟩
  have HBA := Lib.hid (HB0.out.trans (hbA.mono HB0.out.size))
  have HSA := Lib.hid (spec_int64 BA vA nA lA wA hsA (by omega))
  have hvA' : intOf2 nA lA = (m : Int) := hvA
  rw [hvA'] at HSA
  unfold S64Post at HSA
  rw [if_pos (by omega), decide_eq_true (by omega)] at HSA
  clear hvA' hsA hvA hbA HN
  go_wp2_with fail
  refine HSA.out.mono ?_
  rintro e wB ⟨rfl, hbB⟩
  have HBB := Lib.hid (HBA.out.trans (hbB.mono HBA.out.size))
  clear hbB HSA
  go_wp2
  go_ret
  exact ⟨rfl, HBB.out⟩
end Go.Proofs.YthoemgnfklhgjaaGreat
