/- The reference's comparison of equal values. -/
import Derived.Test.YteibkaonofkcbaaGreatTell
import Derived.Test.YteibkaonofkcbaaGreatTupJoinL
import Derived.Test.YteibkaonofkcbaaGreatSCmp
import Derived.RegionTactic
import Derived.Deep.DeepCutAuto
set_option linter.unusedSimpArgs false
set_option linter.unusedVariables false
namespace Go.Proofs.YteibkaonofkcbaaGreat
open Go.RowKit
attribute [local go_sem ↓] Go.wp_at_zero Go.wp_at_succ
def SmallX : Sx → Prop
  | .int _ l => l.length ≤ 40
  | _ => True
theorem XVal.small {w : World} {B : Nat} {v : Value} {s : Sx} (h : XVal w B v s) : SmallX s := by
  cases s with
  | int neg l => exact h.2
  | _ => trivial
def SamePost (w : World) (e : Ending) (w' : World) : Prop := e = .returned (.bool true) ∧ Below w.heap.size w w'
theorem same_nil (w : World) : Calls Tryz.prog 17 #[.slice none 0 0, .slice none 0 0] w (SamePost w) := by
  go_enter Tryz.func17, Tryz.ntmps17
  go_wp2_with fail
  go_loopg [5] 0 (fun k jv wr => jv = .int .i64 0 ∧ Hid (Below w.heap.size w wr))
  case atStart => exact ⟨rfl, Below.refl _ _⟩
  case round =>
    obtain ⟨rfl, hb⟩ := hrel
    go_wp2
    go_ret
    exact ⟨rfl, hb.out⟩
set_option maxRecDepth 100000 in
set_option maxHeartbeats 8000000 in
theorem same_x (v1 v2 : Value) (s : Sx) (w : World) (h1 : RVal w v1 s) (h2 : RVal w v2 s) (hl : SmallX s) : Calls Tryz.prog 19 #[v1, v2] w (SamePost w) := by
  cases s with
  | none =>
    obtain rfl := h1
    obtain rfl := h2
    have HB0 : Hid (Below w.heap.size w ((w.alloc (.cells #[.int .i64 0, .bool false, .slice none 0 0, .int .u64 0, .string ⟨#[]⟩, .slice none 0 0] 33)).alloc (.cells #[.int .i64 0, .bool false, .slice none 0 0, .int .u64 0, .string ⟨#[]⟩, .slice none 0 0] 33))) := ((Below.refl _ _).alloc (Nat.le_refl _) _).alloc (by simp) _
    unfold pv
    clear hl
    go_enter Tryz.func19, Tryz.ntmps19
    go_wp2_with fail
    refine (same_nil _).mono ?_
    rintro e w1 ⟨rfl, hb⟩
    have HB1 := Lib.hid (HB0.out.trans (hb.mono HB0.out.size))
    clear hb
    go_wp2
    go_ret
    exact ⟨rfl, HB1.out⟩
  | str t =>
    obtain rfl := h1
    obtain rfl := h2
    have HB0 : Hid (Below w.heap.size w ((w.alloc (.cells #[.int .i64 4, .bool false, .slice none 0 0, .int .u64 0, .string t, .slice none 0 0] 33)).alloc (.cells #[.int .i64 4, .bool false, .slice none 0 0, .int .u64 0, .string t, .slice none 0 0] 33))) := ((Below.refl _ _).alloc (Nat.le_refl _) _).alloc (by simp) _
    unfold pv
    clear hl
    go_enter Tryz.func19, Tryz.ntmps19
    go_wp2_with fail
    refine (same_nil _).mono ?_
    rintro e w1 ⟨rfl, hb⟩
    have HB1 := Lib.hid (HB0.out.trans (hb.mono HB0.out.size))
    clear hb
    go_wp2
    go_ret
    exact ⟨rfl, HB1.out⟩
  | byt t =>
    obtain rfl := h1
    obtain rfl := h2
    have HB0 : Hid (Below w.heap.size w ((w.alloc (.cells #[.int .i64 5, .bool false, .slice none 0 0, .int .u64 0, .string t, .slice none 0 0] 33)).alloc (.cells #[.int .i64 5, .bool false, .slice none 0 0, .int .u64 0, .string t, .slice none 0 0] 33))) := ((Below.refl _ _).alloc (Nat.le_refl _) _).alloc (by simp) _
    unfold pv
    clear hl
    go_enter Tryz.func19, Tryz.ntmps19
    go_wp2_with fail
    refine (same_nil _).mono ?_
    rintro e w1 ⟨rfl, hb⟩
    have HB1 := Lib.hid (HB0.out.trans (hb.mono HB0.out.size))
    clear hb
    go_wp2
    go_ret
    exact ⟨rfl, HB1.out⟩
  | float f =>
    obtain rfl := h1
    obtain rfl := h2
    have HB0 : Hid (Below w.heap.size w ((w.alloc (.cells #[.int .i64 3, .bool false, .slice none 0 0, .int .u64 (f : Int), .string ⟨#[]⟩, .slice none 0 0] 33)).alloc (.cells #[.int .i64 3, .bool false, .slice none 0 0, .int .u64 (f : Int), .string ⟨#[]⟩, .slice none 0 0] 33))) := ((Below.refl _ _).alloc (Nat.le_refl _) _).alloc (by simp) _
    unfold pv
    clear hl
    go_enter Tryz.func19, Tryz.ntmps19
    go_wp2
    go_ret
    exact ⟨by first | rfl | simp, HB0.out⟩
  | bool b =>
    obtain rfl := h1
    obtain rfl := h2
    have HB0 : Hid (Below w.heap.size w ((w.alloc (.cells #[.int .i64 1, .bool false, .slice none 0 0, .int .u64 (if b then 1 else 0), .string ⟨#[]⟩, .slice none 0 0] 33)).alloc (.cells #[.int .i64 1, .bool false, .slice none 0 0, .int .u64 (if b then 1 else 0), .string ⟨#[]⟩, .slice none 0 0] 33))) := ((Below.refl _ _).alloc (Nat.le_refl _) _).alloc (by simp) _
    unfold pv
    generalize (if b then (1 : Int) else 0) = bb at HB0 ⊢
    clear hl
    go_enter Tryz.func19, Tryz.ntmps19
    go_wp2
    go_ret
    exact ⟨by first | rfl | simp, HB0.out⟩
  | int neg l =>
    obtain ⟨g, o, c, rfl, hb1, _⟩ := h1
    obtain ⟨g2, o2, c2, rfl, hb2, _⟩ := h2
    obtain ⟨r, hr⟩ : ∃ r, r = l.length := ⟨_, rfl⟩
    rw [← hr] at hb1 hb2 ⊢
    have hl' : l.length ≤ 70368744177664 := Nat.le_trans hl (by decide)
    have HB0 : Hid (Below w.heap.size w ((w.alloc (.cells #[.int .i64 2, .bool neg, .slice (some ⟨g, o, Option.none⟩) r c, .int .u64 0, .string ⟨#[]⟩, .slice none 0 0] 33)).alloc (.cells #[.int .i64 2, .bool neg, .slice (some ⟨g2, o2, Option.none⟩) r c2, .int .u64 0, .string ⟨#[]⟩, .slice none 0 0] 33))) := ((Below.refl _ _).alloc (Nat.le_refl _) _).alloc (by simp) _
    have HK1 := Lib.hid ((Blk.new w 33 #[.int .i64 2, .bool neg, .slice (some ⟨g, o, Option.none⟩) r c, .int .u64 0, .string ⟨#[]⟩, .slice none 0 0]).alloc (.cells #[.int .i64 2, .bool neg, .slice (some ⟨g2, o2, Option.none⟩) r c2, .int .u64 0, .string ⟨#[]⟩, .slice none 0 0] 33))
    have HK2 := Lib.hid (Blk.new_at (w.alloc (.cells #[.int .i64 2, .bool neg, .slice (some ⟨g, o, Option.none⟩) r c, .int .u64 0, .string ⟨#[]⟩, .slice none 0 0] 33)) 33 #[.int .i64 2, .bool neg, .slice (some ⟨g2, o2, Option.none⟩) r c2, .int .u64 0, .string ⟨#[]⟩, .slice none 0 0] (n := w.heap.size + 1) (by simp))
    have HN1 : Hid (∀ W, Below ((w.alloc (.cells #[.int .i64 2, .bool neg, .slice (some ⟨g, o, Option.none⟩) r c, .int .u64 0, .string ⟨#[]⟩, .slice none 0 0] 33)).alloc (.cells #[.int .i64 2, .bool neg, .slice (some ⟨g2, o2, Option.none⟩) r c2, .int .u64 0, .string ⟨#[]⟩, .slice none 0 0] 33)).heap.size ((w.alloc (.cells #[.int .i64 2, .bool neg, .slice (some ⟨g, o, Option.none⟩) r c, .int .u64 0, .string ⟨#[]⟩, .slice none 0 0] 33)).alloc (.cells #[.int .i64 2, .bool neg, .slice (some ⟨g2, o2, Option.none⟩) r c2, .int .u64 0, .string ⟨#[]⟩, .slice none 0 0] 33)) W → Calls Tryz.prog 38 #[.agg #[.int .i64 2, .bool neg, .slice (some ⟨g, o, Option.none⟩) r c, .int .u64 0, .string ⟨#[]⟩, .slice none 0 0]] W (OfPost neg l W)) := fun W h => num_any 2 neg (some ⟨g, o, Option.none⟩) r c 0 ⟨#[]⟩ Option.none 0 0 l W ((hb1.old HB0.out).old h) hl'
    have HN2 : Hid (∀ W, Below ((w.alloc (.cells #[.int .i64 2, .bool neg, .slice (some ⟨g, o, Option.none⟩) r c, .int .u64 0, .string ⟨#[]⟩, .slice none 0 0] 33)).alloc (.cells #[.int .i64 2, .bool neg, .slice (some ⟨g2, o2, Option.none⟩) r c2, .int .u64 0, .string ⟨#[]⟩, .slice none 0 0] 33)).heap.size ((w.alloc (.cells #[.int .i64 2, .bool neg, .slice (some ⟨g, o, Option.none⟩) r c, .int .u64 0, .string ⟨#[]⟩, .slice none 0 0] 33)).alloc (.cells #[.int .i64 2, .bool neg, .slice (some ⟨g2, o2, Option.none⟩) r c2, .int .u64 0, .string ⟨#[]⟩, .slice none 0 0] 33)) W → Calls Tryz.prog 38 #[.agg #[.int .i64 2, .bool neg, .slice (some ⟨g2, o2, Option.none⟩) r c2, .int .u64 0, .string ⟨#[]⟩, .slice none 0 0]] W (OfPost neg l W)) := fun W h => num_any 2 neg (some ⟨g2, o2, Option.none⟩) r c2 0 ⟨#[]⟩ Option.none 0 0 l W ((hb2.old HB0.out).old h) hl'
    unfold pv
    clear hl hb1 hb2 hl' hr
    go_enter Tryz.func19, Tryz.ntmps19
    go_upto_region 5 with fail
    have C := Lib.hid (Below.refl ((w.alloc (.cells #[.int .i64 2, .bool neg, .slice (some ⟨g, o, Option.none⟩) r c, .int .u64 0, .string ⟨#[]⟩, .slice none 0 0] 33)).alloc (.cells #[.int .i64 2, .bool neg, .slice (some ⟨g2, o2, Option.none⟩) r c2, .int .u64 0, .string ⟨#[]⟩, .slice none 0 0] 33)).heap.size ((w.alloc (.cells #[.int .i64 2, .bool neg, .slice (some ⟨g, o, Option.none⟩) r c, .int .u64 0, .string ⟨#[]⟩, .slice none 0 0] 33)).alloc (.cells #[.int .i64 2, .bool neg, .slice (some ⟨g2, o2, Option.none⟩) r c2, .int .u64 0, .string ⟨#[]⟩, .slice none 0 0] 33)).drew)
    have C : Hid (Below ((w.alloc (.cells #[.int .i64 2, .bool neg, .slice (some ⟨g, o, Option.none⟩) r c, .int .u64 0, .string ⟨#[]⟩, .slice none 0 0] 33)).alloc (.cells #[.int .i64 2, .bool neg, .slice (some ⟨g2, o2, Option.none⟩) r c2, .int .u64 0, .string ⟨#[]⟩, .slice none 0 0] 33)).heap.size ((w.alloc (.cells #[.int .i64 2, .bool neg, .slice (some ⟨g, o, Option.none⟩) r c, .int .u64 0, .string ⟨#[]⟩, .slice none 0 0] 33)).alloc (.cells #[.int .i64 2, .bool neg, .slice (some ⟨g2, o2, Option.none⟩) r c2, .int .u64 0, .string ⟨#[]⟩, .slice none 0 0] 33)) ((w.alloc (.cells #[.int .i64 2, .bool neg, .slice (some ⟨g, o, Option.none⟩) r c, .int .u64 0, .string ⟨#[]⟩, .slice none 0 0] 33)).alloc (.cells #[.int .i64 2, .bool neg, .slice (some ⟨g2, o2, Option.none⟩) r c2, .int .u64 0, .string ⟨#[]⟩, .slice none 0 0] 33)).drew) := (Below.refl _ _).drew
    go_region_with ((first
      | (go_at_call 38; refine (HN1.out _ C.out).mono ?_; rintro e w1 ⟨u1, rfl, hs1, hb1⟩; have S1 := Lib.hid hs1; (try have S2 := Lib.hid (S2.out.below hb1)); have C := Lib.hid (C.out.trans (hb1.mono C.out.size)); clear hs1 hb1; obtain ⟨e0, e1, e2, e3, e4, e5, _, _, _, _, _, _⟩ := blk6 (HK1.out.below C.out HK1.out.lt); obtain ⟨y0, y1, y2, y3, y4, y5, _, _, _, _, _, _⟩ := blk6 (HK2.out.below C.out HK2.out.lt))
      | (go_at_call 38; refine (HN2.out _ C.out).mono ?_; rintro e w2 ⟨u2, rfl, hs2, hb2⟩; have S2 := Lib.hid hs2; (try have S1 := Lib.hid (S1.out.below hb2)); have C := Lib.hid (C.out.trans (hb2.mono C.out.size)); clear hs2 hb2; obtain ⟨e0, e1, e2, e3, e4, e5, _, _, _, _, _, _⟩ := blk6 (HK1.out.below C.out HK1.out.lt); obtain ⟨y0, y1, y2, y3, y4, y5, _, _, _, _, _, _⟩ := blk6 (HK2.out.below C.out HK2.out.lt))
      | (go_at_call 39; refine (cmp_full _ _ _ _ _ _ _ _ _ S1.out S2.out).mono ?_; unfold OrdPost; rw [Int.sub_self]; rintro e w3 ⟨rfl, hb3⟩; have hs0 : sgn 0 = 0 := rfl; rw [hs0]; have C := Lib.hid (C.out.trans (hb3.mono C.out.size)); clear hb3; obtain ⟨e0, e1, e2, e3, e4, e5, _, _, _, _, _, _⟩ := blk6 (HK1.out.below C.out HK1.out.lt); obtain ⟨y0, y1, y2, y3, y4, y5, _, _, _, _, _, _⟩ := blk6 (HK2.out.below C.out HK2.out.lt))))
    all_goals
      go_wp2
      go_ret
      exact ⟨by first | rfl | simp, HB0.out.trans (C.out.mono HB0.out.size)⟩
end Go.Proofs.YteibkaonofkcbaaGreat
