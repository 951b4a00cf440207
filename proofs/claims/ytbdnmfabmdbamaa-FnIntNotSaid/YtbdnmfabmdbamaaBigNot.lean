/- An integer with all bits turned, in math/big. -/
import Derived.Test.YtbdnmfabmdbamaaNatSubW
import Derived.Test.YtbdnmfabmdbamaaMakeInt
import Derived.Deep.RegionHeld3
import Derived.Deep.DrawnRows
namespace Go.Proofs.Ytbdnmfabmdbamaa
open Go.RowKit
attribute [local go_sem ↓] Go.wp_at_zero Go.wp_at_succ
theorem nat_set0 (By gy cy : Nat) (a : Option Addr) (c : Nat) (w : World) (hy : OW w By (.slice (some ⟨gy, 0, none⟩) 1 cy) [1]) :
    Calls Try.prog 86 #[.slice none 0 0, .slice (some ⟨gy, 0, none⟩) 1 cy, .slice a 0 c] w (NatPost 1 w) := by
  have HY := Lib.hid (fun W hW => nat_set By (.slice (some ⟨gy, 0, none⟩) 1 cy) [1] W (hy.heap (w' := W) hW) (by simp))
  clear hy
  go_enter Try.func86, Try.ntmps86
  go_wp2_with fail
  refine (HY.out _ rfl).mono ?_
  rintro e w1 ⟨v, rfl, hv, hb⟩
  have HV := Lib.hid hv
  have HB := Lib.hid hb
  clear hv hb
  go_wp2
  go_ret
  exact ⟨v, [1], rfl, HV.out, by simp [valW], by simp [TopNZ], HB.out⟩
theorem nat_add0 (By gy cy : Nat) (a : Option Addr) (c : Nat) (w : World) (hy : OW w By (.slice (some ⟨gy, 0, none⟩) 1 cy) [1]) :
    Calls Try.prog 86 #[.slice none 0 0, .slice a 0 c, .slice (some ⟨gy, 0, none⟩) 1 cy] w (NatPost 1 w) := by
  have HY := Lib.hid (fun W hW => nat_set0 By gy cy a c W (hy.heap (w' := W) hW))
  clear hy
  go_enter Try.func86, Try.ntmps86
  go_wp2_with fail
  refine (HY.out _ rfl).mono ?_
  rintro e w1 ⟨v, l, rfl, hv, h1, h2, hb⟩
  have HV := Lib.hid hv
  have HB := Lib.hid hb
  have H1 := Lib.hid h1
  have H2 := Lib.hid h2
  clear hv hb h1 h2
  go_wp2
  go_ret
  exact ⟨v, l, rfl, HV.out, H1.out, H2.out, HB.out⟩
theorem nat_plus (Bx By : Nat) (v vy : Value) (ws : List Nat) (w : World) (hx : OW w Bx v ws) (hy : OW w By vy [1]) (hl : ws.length ≤ 1000) :
    Calls Try.prog 86 #[.slice none 0 0, v, vy] w (NatPost (valW ws + 1) w) := by
  rcases hy.form with ⟨_, h⟩ | ⟨gy, cy, rfl, _⟩
  · cases h
  rcases hx.form with ⟨rfl, rfl⟩ | ⟨gx, cx, rfl, _⟩
  · exact (nat_add0 By gy cy none 0 w hy).mono fun _ _ h => h
  · by_cases hm : ws.length = 0
    · obtain rfl : ws = [] := List.eq_nil_of_length_eq_zero hm
      exact (nat_add0 By gy cy _ cx w hy).mono fun _ _ h => h
    · exact nat_add1 Bx By gx cx gy cy ws.length ws w hx hy hl (by omega)
theorem nat_minus (Bx By : Nat) (v vy : Value) (ws : List Nat) (w : World) (hx : OW w Bx v ws) (hy : OW w By vy [1]) (hl : ws.length ≤ 1000) (hpos : 1 ≤ valW ws) :
    Calls Try.prog 84 #[.slice none 0 0, v, vy] w (NatPost (valW ws - 1) w) := by
  rcases hy.form with ⟨_, h⟩ | ⟨gy, cy, rfl, _⟩
  · cases h
  rcases hx.form with ⟨rfl, rfl⟩ | ⟨gx, cx, rfl, _⟩
  · simp [valW] at hpos
  · by_cases hm : ws.length = 0
    · obtain rfl : ws = [] := List.eq_nil_of_length_eq_zero hm
      simp [valW] at hpos
    · exact nat_sub1 Bx By gx cx gy cy ws.length ws w hx hy hl (by omega) hpos
theorem topNZ_le {ws : List Nat} (ht : TopNZ ws) {K : Nat} (h : valW ws < W64 ^ K) : ws.length ≤ K := by
  by_cases h0 : ws = []
  · subst h0; simp
  · obtain ⟨init, last, rfl⟩ : ∃ init last, ws = init ++ [last] := ⟨ws.dropLast, ws.getLast h0, (List.dropLast_concat_getLast h0).symm⟩
    have hl0 : last ≠ 0 := by unfold TopNZ at ht; simpa using ht
    have h1 := valW_top init last hl0
    have := (Nat.pow_lt_pow_iff_right (a := W64) (by unfold W64; omega)).1 (Nat.lt_of_le_of_lt h1 h)
    simp; omega
def IntNotPost (bz : Nat) (n : Int) (w : World) (e : Ending) (w' : World) : Prop := ∃ neg ws, e = .returned (.pointer (some ⟨bz, 0, none⟩)) ∧ BigI w' w.heap.size bz neg ws ∧ valI neg ws = n ∧ Only (· = bz) w w'
theorem not_fin {w w2 : World} {bz : Nat} {nb : Bool} {v : Value} {ws : List Nat} {n : Int} {cs : Array Value} (hk : Blk w2 bz 82 cs) (hc : cs.size = 2) (how : OW w2 w.heap.size v ws) (ht : TopNZ ws) (hl : ws.length ≤ 1000) (hn : valI nb ws = n) (hnz : nb = true → ws ≠ []) (hb : Below w.heap.size w w2) (hz : bz < w.heap.size) :
    IntNotPost bz n w (.returned (.pointer (some ⟨bz, 0, none⟩))) ((w2.setCell ⟨bz, 1, none⟩ v).setCell ⟨bz, 0, none⟩ (.bool nb)) := by
  have hO : Only (· = bz) w2 ((w2.setCell ⟨bz, 1, none⟩ v).setCell ⟨bz, 0, none⟩ (.bool nb)) := ((Only.refl (fun x => x = bz) w2).setCell (p := ⟨bz, 1, none⟩) (.inl rfl) v).setCell (p := ⟨bz, 0, none⟩) (.inl rfl) _
  refine ⟨nb, ws, rfl, ⟨v, ?_, how.only hO (fun g hg e => by omega), ht, hnz, hl⟩, hn, (Only.of_below hb).trans hO⟩
  have h1 := (hk.put 1 v).put 0 (.bool nb)
  obtain ⟨a, b, rfl⟩ : ∃ a b, cs = #[a, b] := by
    match cs, hc with
    | ⟨[a, b]⟩, _ => exact ⟨a, b, rfl⟩
  exact h1
set_option maxRecDepth 20000 in
set_option maxHeartbeats 4000000 in
theorem int_not (B bz bx K : Nat) (neg : Bool) (ws : List Nat) (w : World) (hz : Blk w bz 82 #[.bool false, .slice none 0 0]) (hx : BigI w B bx neg ws) (hne : bz ≠ bx) (hK : K ≤ 900) (hv : valW ws < W64 ^ K) :
    Calls Try.prog 64 #[.pointer (some ⟨bz, 0, none⟩), .pointer (some ⟨bx, 0, none⟩)] w (IntNotPost bz (-(valI neg ws) - 1) w) := by
  obtain ⟨v, hk, how, ht, hneg, hlen⟩ := hx
  obtain ⟨a, c, hva⟩ := how.shape
  obtain ⟨m, hm⟩ : ∃ m, m = ws.length := ⟨_, rfl⟩
  rw [← hm] at hva
  subst hva
  obtain ⟨z0, z1, fz0, fz1⟩ := blk2 hz
  obtain ⟨x0, x1, fx0, fx1⟩ := blk2 hk
  have hzl := hz.lt
  have hxl := hk.lt
  have HZ := Lib.hid hz
  have HK := Lib.hid hk
  have HOW := Lib.hid how
  have HT := Lib.hid ht
  have HN := Lib.hid hneg
  have HL := Lib.hid hlen
  have HV := Lib.hid hv
  have HPOS : Hid (neg = true → 1 ≤ valW ws) := fun h => by
    have h0 := hneg h
    obtain ⟨init, last, rfl⟩ : ∃ init last, ws = init ++ [last] := ⟨ws.dropLast, ws.getLast h0, (List.dropLast_concat_getLast h0).symm⟩
    have hl0 : last ≠ 0 := by unfold TopNZ at ht; simpa using ht
    have h1 := valW_top init last hl0
    have h2 : 0 < W64 ^ init.length := Nat.pow_pos W64_pos
    omega
  clear hz hk how ht hneg hlen hv hm
  cases neg
  · go_enter Try.func64, Try.ntmps64
    go_wp2_with fail
    go_region_with ((first
      | (go_at_call 85; refine (nat_one _).mono ?_; rintro e w1 ⟨vy, rfl, hy, hb1⟩; have HY := Lib.hid hy; have HB1 : Hid (Below w.heap.size w w1) := ⟨hb1.os, hb1.tape, hb1.output, hb1.size, hb1.block⟩; obtain ⟨hc, hf⟩ := bcell HB1.out; clear hy hb1)
      | (go_at_call 86; refine (nat_plus _ _ _ _ ws _ (HOW.out.below HB1.out) HY.out HL.out).mono ?_; rintro e w2 ⟨v2, ws2, rfl, how2, hval2, ht2, hb2⟩; have HOW2 := Lib.hid how2; have HVAL2 := Lib.hid hval2; have HT2 := Lib.hid ht2; have C2 : Hid (Below w.heap.size w w2) := HB1.out.trans (hb2.mono HB1.out.size); obtain ⟨hc2, hf2⟩ := bcell C2.out; have HBZ := Lib.hid HB1.out.size; obtain ⟨a2, c2, hv2⟩ := how2.shape; obtain ⟨m2, hm2⟩ : ∃ m, m = ws2.length := ⟨_, rfl⟩; rw [← hm2] at hv2; subst hv2; clear how2 hval2 ht2 hb2 hm2)))
    all_goals
      go_wp2
      go_ret
      have hlen2 : ws2.length ≤ 1000 := by
        refine Nat.le_trans (topNZ_le HT2.out (K := K + 1) ?_) (by omega)
        rw [HVAL2.out, Nat.pow_succ]
        have h1 := HV.out
        have h2 : W64 ^ K * 1 ≤ W64 ^ K * W64 := Nat.mul_le_mul_left _ W64_pos
        have h3 : 0 < W64 ^ K := Nat.pow_pos W64_pos
        have h4 : W64 ^ K * 2 ≤ W64 ^ K * W64 := Nat.mul_le_mul_left _ (by unfold W64; omega)
        omega
      exact not_fin (HZ.out.below C2.out hzl) rfl (HOW2.out.base HBZ.out) HT2.out hlen2 (by unfold valI; rw [HVAL2.out]; simp; omega) (fun _ e => by have h := HVAL2.out; rw [e] at h; simp [valW] at h) C2.out hzl
  · go_enter Try.func64, Try.ntmps64
    go_wp2_with fail
    go_region_with ((first
      | (go_at_call 85; refine (nat_one _).mono ?_; rintro e w1 ⟨vy, rfl, hy, hb1⟩; have HY := Lib.hid hy; have HB1 : Hid (Below w.heap.size w w1) := ⟨hb1.os, hb1.tape, hb1.output, hb1.size, hb1.block⟩; obtain ⟨hc, hf⟩ := bcell HB1.out; clear hy hb1)
      | (go_at_call 84; refine (nat_minus _ _ _ _ ws _ (HOW.out.below HB1.out) HY.out HL.out (HPOS.out (by first | rfl | trivial))).mono ?_; rintro e w2 ⟨v2, ws2, rfl, how2, hval2, ht2, hb2⟩; have HOW2 := Lib.hid how2; have HVAL2 := Lib.hid hval2; have HT2 := Lib.hid ht2; have C2 : Hid (Below w.heap.size w w2) := HB1.out.trans (hb2.mono HB1.out.size); obtain ⟨hc2, hf2⟩ := bcell C2.out; have HBZ := Lib.hid HB1.out.size; obtain ⟨a2, c2, hv2⟩ := how2.shape; obtain ⟨m2, hm2⟩ : ∃ m, m = ws2.length := ⟨_, rfl⟩; rw [← hm2] at hv2; subst hv2; clear how2 hval2 ht2 hb2 hm2)))
    all_goals
      go_wp2
      go_ret
      have hp : 1 ≤ valW ws := HPOS.out (by first | rfl | trivial)
      have hlen2 : ws2.length ≤ 1000 := by
        refine Nat.le_trans (topNZ_le HT2.out (K := K) ?_) (by omega)
        rw [HVAL2.out]
        have h1 := HV.out
        omega
      exact not_fin (HZ.out.below C2.out hzl) rfl (HOW2.out.base HBZ.out) HT2.out hlen2 (by unfold valI; rw [HVAL2.out]; simp; omega) (fun h => by cases h) C2.out hzl
end Go.Proofs.Ytbdnmfabmdbamaa
