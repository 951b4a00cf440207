/- The reference's count of a part in a text. -/
import Derived.Test.YthoemgnfklhgjaaGreatSpan
namespace Go.Proofs.YthoemgnfklhgjaaGreat
open Go.RowKit
attribute [local go_sem ↓] Go.wp_at_zero Go.wp_at_succ
theorem cut_mid (s : ByteArray) (x y : Nat) (b : Int) (hy : max (x : Int) b = (y : Int)) : (cutB s x b).data.toList = mid s.data.toList x y := by
  unfold cutB
  by_cases h : (x : Int) < b
  · rw [if_pos h, extract_list]
    have : b.toNat = y := by omega
    rw [this]
    simp [mid]
  · rw [if_neg h, mid_nil _ _ _ (by omega)]
def FoundPost (r : Option Nat) (w : World) (e : Ending) (w' : World) : Prop :=
  ((∃ (m : Nat) (v : Value) (neg : Bool) (l : List Nat), r = some m ∧ e = .returned (.tuple #[v, .bool true]) ∧ IVal w' w.heap.size v neg l ∧ intOf2 neg l = (m : Int)) ∨ (r = none ∧ e = .returned (.tuple #[pNone, .bool false]))) ∧ Below w.heap.size w w'
set_option maxRecDepth 100000 in
set_option maxHeartbeats 4000000 in
theorem found_any (s t : ByteArray) (s1 s2 : Sc) (S : Nat) (w : World) (hs : s.size ≤ 60) (ht : t.size ≤ 60) (h1 : s1.ok) (h2 : s2.ok)
    (h0 : w.cell? ⟨S, 0, none⟩ = some (.int .i64 4) ∧ w.cell? ⟨S, 4, none⟩ = some (.string t)) (ha : ArgAt w S 6 s1) (hb : ArgAt w S 12 s2) :
    Calls Tryz.prog 26 #[.string s, .string ⟨#[99, 111, 117, 110, 116]⟩, .slice (some ⟨S, 0, none⟩) 3 3] w (FoundPost (countR s t s1 s2) w) := by
  have hSl := ha.1
  obtain ⟨e0, e4⟩ := h0
  have HB0 := Lib.hid ((Below.refl w.heap.size w).alloc (Nat.le_refl _) (.cells #[.int .i64 0, .bool false, .slice none 0 0, .int .u64 0, .string ⟨#[]⟩, .slice none 0 0] 26))
  have HK0 := Lib.hid (Blk.new w 26 #[.int .i64 0, .bool false, .slice none 0 0, .int .u64 0, .string ⟨#[]⟩, .slice none 0 0])
  have HSP := Lib.hid (span_any s1 s2 s.size S 2 _ h1 h2 (ha.below HB0.out) (hb.below HB0.out) (by omega))
  have HE : Hid (∀ W, Below w.heap.size w W → W.cell? ⟨S, 0, none⟩ = some (.int .i64 4) ∧ W.cell? ⟨S, 4, none⟩ = some (.string t)) := fun W hW => ⟨(hW.cell (p := ⟨S, 0, none⟩) hSl).trans e0, (hW.cell (p := ⟨S, 4, none⟩) hSl).trans e4⟩
  clear ha hb h1 h2
  go_enter Tryz.func26, Tryz.ntmps26
  go_wp2_with fail
  refine HSP.out.mono ?_
  rintro e w1 ⟨hr, hb1⟩
  have HB1 := Lib.hid (HB0.out.trans (hb1.mono HB0.out.size))
  have hk1 := HK0.out.below hb1 HK0.out.lt
  have HK1 := Lib.hid hk1
  obtain ⟨c0, c1, c2, c3, c4, c5, f0, f1, f2, f3, f4, f5⟩ := blk6 hk1
  obtain ⟨q0, q4⟩ := HE.out _ HB1.out
  clear hb1 hk1 e0 e4
  rcases hr with ⟨a, b, ha, hb, rfl⟩ | ⟨hno, rfl⟩
  · obtain ⟨lo, hlo⟩ : ∃ lo, lo = clampI a s.size := ⟨_, rfl⟩
    obtain ⟨hi, hhi⟩ : ∃ hi, hi = clampI b s.size := ⟨_, rfl⟩
    have hR : countR s t s1 s2 = some (rest t.data.toList (cutB s lo hi).data.toList 0) := by unfold countR; rw [ha, hb]; simp only; rw [← hlo, ← hhi]
    rw [← hlo, ← hhi]
    have hlo2 : 0 ≤ lo ∧ lo ≤ s.size := by rw [hlo]; unfold clampI; split <;> (try split) <;> omega
    have hhi2 : 0 ≤ hi ∧ hi ≤ s.size := by rw [hhi]; unfold clampI; split <;> (try split) <;> omega
    obtain ⟨x, rfl⟩ : ∃ x : Nat, lo = (x : Int) := ⟨lo.toNat, by omega⟩
    obtain ⟨y, hy⟩ : ∃ y : Nat, max (x : Int) hi = (y : Int) := ⟨(max (x : Int) hi).toNat, by omega⟩
    rw [cut_mid s x y hi hy] at hR
    rw [hy]
    have hxy : x ≤ y := by omega
    have hys : y ≤ s.size := by omega
    have hql := mid_len s.data.toList x y (by simpa using hys)
    have hrl := rest_le t.data.toList (mid s.data.toList x y) 0
    obtain ⟨T, hT⟩ : ∃ T, T = rest t.data.toList (mid s.data.toList x y) 0 := ⟨_, rfl⟩
    rw [← hT] at hR hrl
    have hT1 : T ≤ 61 := by omega
    have HR := Lib.hid hR
    have HT := Lib.hid hT
    have HQL := Lib.hid hql
    have HTL : Hid (t.data.toList.length = t.size) := by unfold Hid; simp
    clear hR hT hql hrl hlo hhi hlo2 hhi2 hy ha hb
    go_wp2_with fail
    go_loopw [12, 13, 14, 15, 16] (fun fv lv mv nv iv wr => ∃ (f l : Int) (m nx i : Nat), wr = w1 ∧ fv = .int .i64 f ∧ lv = .int .i64 l ∧ mv = .int .i64 (m : Int) ∧ nv = .int .i64 (nx : Int) ∧ iv = .int .i64 (i : Int) ∧ x ≤ i ∧ i ≤ y + 1 ∧ x ≤ nx ∧ nx ≤ y ∧ m ≤ 61 ∧ Hid (m + rest t.data.toList (mid s.data.toList x y) (max i nx - x) = T)) (fun _ _ _ _ iv _ => y + 100 - (intOf iv).toNat)
    case atStart => exact ⟨-1, -1, 0, x, x, rfl, rfl, rfl, rfl, rfl, rfl, Nat.le_refl _, by omega, Nat.le_refl _, hxy, by omega, by unfold Hid; rw [HT.out, show max x x - x = 0 by omega]; omega⟩
    case round =>
      obtain ⟨f, l, m, nx, i, rfl, rfl, rfl, rfl, rfl, rfl, hxi, hiy, hxn, hny, hm, hinv⟩ := hrel
      obtain ⟨j, hj⟩ : ∃ j : Nat, (i : Int) + (t.size : Int) = (j : Int) := ⟨i + t.size, by omega⟩
      have HJ : Hid (i + t.size = j) := by unfold Hid; omega
      by_cases hjy : j ≤ y
      · have hd : decide ((j : Int) ≤ (y : Int)) = true := by simp; omega
        have hd' : decide (j ≤ y) = true := by simp; omega
        have hij : i ≤ j := by omega
        have hjs : j ≤ s.size := by omega
        have hmp := mid_part s.data.toList x y (i - x) t.size (by omega)
        rw [show x + (i - x) = i by omega] at hmp
        by_cases he : (s.data.toList.drop i).take t.size = t.data.toList
        · have hE : ((s.extract i j).toList == t.toList) = true := by rw [part_eq s t i j HJ.out hjs]; simpa using he
          obtain ⟨bf, hbf⟩ : ∃ bf, decide (f < 0) = bf := ⟨_, rfl⟩
          by_cases hn : nx ≤ i
          · have hd2 : decide ((nx : Int) ≤ (i : Int)) = true := by simp; omega
            have hd3 : decide (nx ≤ i) = true := by simp; omega
            have hh := rest_hit (p := t.data.toList) (l := mid s.data.toList x y) (k := i - x) (by rw [HTL.out, HQL.out]; omega) (by rw [HTL.out, hmp]; exact he)
            rw [HTL.out] at hh
            have hi2 := hinv.out
            rw [show max i nx - x = i - x by omega, hh] at hi2
            have HI : Hid (m + 1 + rest t.data.toList (mid s.data.toList x y) (max (i + 1) j - x) = T) := by
              unfold Hid
              rw [show max (i + 1) j - x = max (i - x + 1) (i - x + t.size) by have := HJ.out; omega]
              omega
            have hm2 : m + 1 ≤ 61 := by omega
            clear he hh hi2 hmp hn
            cases bf
            all_goals
              go_wp2
              go_roundw
              case rel => exact ⟨_, _, m + 1, j, i + 1, trivial, rfl, rfl, by go_num, rfl, by go_num, by omega, by omega, by omega, by omega, by omega, HI.out⟩
              case measure => simp [intOf]; omega
          · have hd2 : decide ((nx : Int) ≤ (i : Int)) = false := by simp; omega
            have hd3 : decide (nx ≤ i) = false := by simp; omega
            have HI : Hid (m + rest t.data.toList (mid s.data.toList x y) (max (i + 1) nx - x) = T) := by
              have := hinv.out
              unfold Hid
              rw [show max (i + 1) nx - x = max i nx - x by omega]
              exact this
            clear he hmp hn
            cases bf
            all_goals
              go_wp2
              go_roundw
              case rel => exact ⟨_, _, m, nx, i + 1, trivial, rfl, rfl, rfl, rfl, by go_num, by omega, by omega, by omega, by omega, by omega, HI.out⟩
              case measure => simp [intOf]; omega
        · have hE : ((s.extract i j).toList == t.toList) = false := by rw [part_eq s t i j HJ.out hjs]; simpa using he
          have HI : Hid (m + rest t.data.toList (mid s.data.toList x y) (max (i + 1) nx - x) = T) := by
            have hi2 := hinv.out
            unfold Hid
            by_cases hn : nx ≤ i
            · rw [show max i nx - x = i - x by omega, rest_miss (p := t.data.toList) (l := mid s.data.toList x y) (k := i - x) (by rw [HTL.out, HQL.out]; omega) (by rw [HTL.out, hmp]; exact he)] at hi2
              rw [show max (i + 1) nx - x = i - x + 1 by omega]
              exact hi2
            · rw [show max (i + 1) nx - x = max i nx - x by omega]
              exact hi2
          clear he hmp
          go_wp2
          go_roundw
          case rel => exact ⟨_, _, m, nx, i + 1, trivial, rfl, rfl, rfl, rfl, by go_num, by omega, by omega, by omega, by omega, by omega, HI.out⟩
          case measure => simp [intOf]; omega
      · have hd : decide ((j : Int) ≤ (y : Int)) = false := by simp; omega
        have hd' : decide (j ≤ y) = false := by simp; omega
        have HM : Hid (m = T) := by
          have hi2 := hinv.out
          rw [rest_end (p := t.data.toList) (l := mid s.data.toList x y) (k := max i nx - x) (by rw [HTL.out, HQL.out]; have := HJ.out; omega)] at hi2
          exact hi2
        go_wp2_with fail
        refine (small_any (m : Int) (by unfold W64; omega) _).mono ?_
        rintro e w3 ⟨v3, n3, l3, rfl, hs3, _, hn3, hb3⟩
        have HS3 := Lib.hid hs3
        have HN3 := Lib.hid hn3
        have HB3 := Lib.hid (HB1.out.trans (hb3.mono HB1.out.size))
        have HK3 := Lib.hid (HK1.out.below hb3 HK1.out.lt)
        have hl3 := intOf2_len (sint_head hs3) hn3 (by omega) (by omega)
        have HL3 : Hid (l3.length ≤ 70368744177664) := by unfold Hid; omega
        clear hs3 hn3 hb3 hl3
        go_wp2_with fail
        refine (intval_any _ v3 n3 l3 _ HS3.out HL3.out).mono ?_
        rintro e w4 ⟨v4, rfl, hi4, hb4⟩
        obtain ⟨vs, hv4, ho4, hh4, hng4⟩ := hi4
        obtain ⟨g, cc, hvs, hg1, _, _, _⟩ := ho4.form
        obtain ⟨r, hr⟩ : ∃ r, r = l3.length := ⟨_, rfl⟩
        rw [← hr] at hvs
        subst hvs
        subst hv4
        have hK3l := HK3.out.lt
        obtain ⟨c0, c1, c2, c3, c4, c5, f0, f1, f2, f3, f4, f5⟩ := blk6 (HK3.out.below hb4 HK3.out.lt)
        have HO := Lib.hid ho4
        have HHD := Lib.hid hh4
        have HNG := Lib.hid hng4
        have HB4 := Lib.hid (HB3.out.trans (hb4.mono HB3.out.size))
        clear hb4 ho4 hh4 hng4 hr
        go_wp2
        refine bodyPost_ret (v := .tuple #[.agg #[.int .i64 2, .bool n3, .slice (some ⟨g, 0, none⟩) r cc, .int .u64 0, .string ⟨#[]⟩, .slice none 0 0], .bool true]) (by simp [results, Tryz.results26, go_sem, c0, c1, c2, c3, c4, c5]) rfl ⟨.inl ⟨T, _, n3, l3, HR.out, rfl, ⟨.slice (some ⟨g, 0, none⟩) r cc, rfl, ?_, HHD.out, HNG.out⟩, by rw [HN3.out, HM.out]⟩, ?_⟩
        · exact (HO.out.only (six_set w4 w.heap.size (.int .i64 2) (.bool n3) (.slice (some ⟨g, 0, none⟩) r cc) (.int .u64 0) (.string ⟨#[]⟩) (.slice none 0 0)) (fun k hk e => by omega)).base (by omega)
        · exact HB4.out.trans ((six_set w4 w.heap.size (.int .i64 2) (.bool n3) (.slice (some ⟨g, 0, none⟩) r cc) (.int .u64 0) (.string ⟨#[]⟩) (.slice none 0 0)).to_below HB4.out.size (fun k _ e => by omega))
  · have HNO : Hid (countR s t s1 s2 = none) := by
      unfold Hid countR
      rcases hno with h | h
      · rw [h]
      · rw [h]; cases idx s1 s.size 0 <;> rfl
    clear hno
    go_wp2
    refine bodyPost_ret (v := .tuple #[pNone, .bool false]) (by simp [results, Tryz.results26, go_sem, pNone, c0, c1, c2, c3, c4, c5]) rfl ⟨.inr ⟨HNO.out, rfl⟩, ?_⟩
    exact HB1.out.trans ((six_set w1 w.heap.size (.int .i64 0) (.bool false) (.slice none 0 0) (.int .u64 0) (.string ⟨#[]⟩) (.slice none 0 0)).to_below HB1.out.size (fun k _ e => by omega))
end Go.Proofs.YthoemgnfklhgjaaGreat
