/- The reference's Scalar and Scalars: values without parts made of any values. -/
import Derived.Test.YteibkaonofkcbaaGreatClean
import Derived.Test.YteibkaonofkcbaaGreatTupJoinJ
import Derived.Deep.LoopGhost
namespace Go.Proofs.YteibkaonofkcbaaGreat
open Go.RowKit
set_option linter.unusedSimpArgs false
set_option linter.unusedVariables false
attribute [local go_sem ↓] Go.wp_at_zero Go.wp_at_succ
theorem ValAt.below {w w' : World} {p : Addr} (h : ValAt w p) (hb : Below w.heap.size w w') : ValAt w' p := by
  obtain ⟨k, neg, a, m, c, b, tx, ka, kn, kc, l, ⟨c0, c1, c2, c3, c4, c5⟩, hv, hr⟩ := h
  have hl : p.block < w.heap.size := World.block_lt_of_cell? w _ c0
  exact ⟨k, neg, a, m, c, b, tx, ka, kn, kc, l, ⟨(hb.cell (p := p) hl).trans c0, (hb.cell (p := p.add 1) hl).trans c1, (hb.cell (p := p.add 2) hl).trans c2, (hb.cell (p := p.add 3) hl).trans c3, (hb.cell (p := p.add 4) hl).trans c4, (hb.cell (p := p.add 5) hl).trans c5⟩, ⟨hv.1.old hb, hv.2⟩, hr⟩
theorem XVal.only {w w' : World} {B : Nat} {S : Nat → Prop} {v : Value} {s : Sx} (h : XVal w B v s) (k : Only S w w') (hs : ∀ g, B ≤ g → ¬ S g) : XVal w' B v s := by
  cases s with
  | int neg l =>
    obtain ⟨⟨vs, hv, ho, h1, h2⟩, h3⟩ := h
    exact ⟨⟨vs, hv, ho.only k hs, h1, h2⟩, h3⟩
  | _ => exact h
set_option maxRecDepth 20000 in
set_option maxHeartbeats 4000000 in
theorem spec_scalar (k : Int) (neg : Bool) (a : Option Addr) (m c : Nat) (b : Nat) (tx : ByteArray) (ka : Option Addr) (kn kc : Nat) (l : List Nat) (w : World) (hb : BSl w (.slice a m c) l) (hl : l.length = m) (ht : tx.size ≤ maxLen) :
    Calls Tryz.prog 16 #[pv k neg a m c (b : Int) tx ka kn kc] w (CleanPost w) := by
  obtain ⟨w0, hw0⟩ : ∃ w0, w0 = ((w.alloc (.cells #[.int .i64 k, .bool neg, .slice a m c, .int .u64 (b : Int), .string tx, .slice ka kn kc] 33)).alloc (.cells #[.int .i64 0, .bool false, .slice none 0 0, .int .u64 0, .string ⟨#[]⟩, .slice none 0 0] 33)) := ⟨_, rfl⟩
  have HB0 : Hid (Below w.heap.size w w0) := by rw [hw0]; exact ((Below.refl w.heap.size w).alloc (Nat.le_refl _) _).alloc (by simp) _
  have HK0 : Hid (Blk w0 (w.heap.size + 1) 33 #[.int .i64 0, .bool false, .slice none 0 0, .int .u64 0, .string ⟨#[]⟩, .slice none 0 0]) := by rw [hw0]; exact Blk.new_at _ _ _ (by simp)
  have HZ0 : Hid (w0.heap.size = w.heap.size + 2) := by rw [hw0]; simp [Hid]
  have HCL := Lib.hid (clean_any k neg a m c b tx ka kn kc l w0 (hb.old HB0.out) hl ht)
  unfold pv at HCL
  unfold pv
  clear hb hl ht
  go_enter Tryz.func16, Tryz.ntmps16
  go_wp2_with fail
  rw [← hw0]
  clear hw0
  refine HCL.out.mono ?_
  rintro e w1 ⟨v, s, rfl, hx, hb1⟩
  have HB1 : Hid (Below w.heap.size w w1) := HB0.out.trans (hb1.mono HB0.out.size)
  obtain ⟨c0, c1, c2, c3, c4, c5, f0, f1, f2, f3, f4, f5⟩ := blk6 (HK0.out.below hb1 HK0.out.lt)
  obtain ⟨n1, a1, m1, c1', b1, x1, rfl⟩ := hx.form
  obtain ⟨kd, hkd⟩ : ∃ kd, kd = kx s := ⟨_, rfl⟩
  rw [← hkd] at hx
  rw [← hkd]
  have HX := Lib.hid hx
  clear hb1 hkd hx
  unfold pv
  go_wp2
  refine bodyPost_ret (v := pv kd n1 a1 m1 c1' b1 x1 none 0 0) (by simp [results, Tryz.results16, go_sem, pv, c0, c1, c2, c3, c4, c5]) rfl ⟨_, s, rfl, ?_, ?_⟩
  · have hz := HZ0.out
    exact (HX.out.only (six_set w1 (w.heap.size + 1) (.int .i64 kd) (.bool n1) (.slice a1 m1 c1') (.int .u64 b1) (.string x1) (.slice none 0 0)) (fun g hg e => by omega)).base (by omega)
  · exact HB1.out.trans ((six_set w1 (w.heap.size + 1) (.int .i64 kd) (.bool n1) (.slice a1 m1 c1') (.int .u64 b1) (.string x1) (.slice none 0 0)).to_below HB1.out.size (fun k _ e => by omega))
def ScalPost (n : Nat) (w : World) (e : Ending) (w' : World) : Prop := ∃ v ps, e = .returned v ∧ RowX w' w.heap.size v ps ∧ ps.length ≤ n ∧ Below w.heap.size w w'
set_option maxRecDepth 100000 in
set_option maxHeartbeats 4000000 in
theorem spec_scalars (a : Option Addr) (len cap : Nat) (w : World) (hl : ListIn w a len cap) :
    Calls Tryz.prog 5 #[.slice a len cap, .int .i64 0] w (ScalPost 16 w) := by
  have HL := Lib.hid hl
  clear hl
  go_enter Tryz.func5, Tryz.ntmps5
  go_wp2_with fail
  go_loopg [5, 6] 16 (fun k ov iv wr => ∃ (i : Nat) (ps : List (Value × Sx)), iv = .int .i64 (i : Int) ∧ i ≤ len ∧ k + i = 16 ∧ Hid (ps.length = i ∧ RowX wr w.heap.size ov ps) ∧ Hid (Below w.heap.size w wr))
  case atStart => exact ⟨0, [], rfl, Nat.zero_le _, rfl, ⟨rfl, RowX.nil _ _⟩, Below.refl _ _⟩
  case round =>
    obtain ⟨i, ps, rfl, hil, hk, hrow, hb⟩ := hrel
    have HK := Lib.hid hk
    clear hk
    by_cases hin : i < len ∧ i < 16
    · obtain ⟨h1, h2⟩ := hin
      have d1 : decide ((i : Int) < (len : Int)) = true := by simp; omega
      have d2 : decide ((i : Int) < 16) = true := by simp; omega
      rcases HL.out with ⟨_, h0, _⟩ | ⟨x, hx, hlc, hcm, hv⟩
      · omega
      · subst hx
        have hva := (hv i h1).below hb.out
        obtain ⟨k, neg, aa, m, c, b, tx, ka, kn, kc, l, ⟨c0, c1, c2, c3, c4, c5⟩, ⟨hbs, hlm⟩, htx, _, _⟩ := hva
        have HCL := Lib.hid (spec_scalar k neg aa m c b tx ka kn kc l wr hbs hlm htx)
        unfold pv at HCL
        have e1 : wr.cell? ⟨(x.add (i * 6)).block, (x.add (i * 6)).off + 1, none⟩ = some (.bool neg) := c1
        have e2 : wr.cell? ⟨(x.add (i * 6)).block, (x.add (i * 6)).off + 2, none⟩ = some (.slice aa m c) := c2
        have e3 : wr.cell? ⟨(x.add (i * 6)).block, (x.add (i * 6)).off + 3, none⟩ = some (.int .u64 (b : Int)) := c3
        have e4 : wr.cell? ⟨(x.add (i * 6)).block, (x.add (i * 6)).off + 4, none⟩ = some (.string tx) := c4
        have e5 : wr.cell? ⟨(x.add (i * 6)).block, (x.add (i * 6)).off + 5, none⟩ = some (.slice ka kn kc) := c5
        clear c1 c2 c3 c4 c5
        have hi63 : (i : Int) < 9223372036854775807 := by omega
        clear hv hbs hlm htx hlc hcm
        go_wp2_with fail
        refine HCL.out.mono ?_
        rintro e w2 ⟨v, s, rfl, hxv, hb2⟩
        have HB2 := Lib.hid (hb.out.trans (hb2.mono hb.out.size))
        have HROW2 := Lib.hid (hrow.out.2.below hb2)
        have HQ := Lib.hid hrow.out.1
        have hx0 := hxv.base (Nat.zero_le _)
        obtain ⟨n1, a1, m1, c1', b1, x1, rfl⟩ := hx0.form
        obtain ⟨kd, hkd⟩ : ∃ kd, kd = kx s := ⟨_, rfl⟩
        rw [← hkd] at hx0
        have HX := Lib.hid hx0
        have HKD := Lib.hid hkd
        rw [← hkd]
        clear hxv hx0 hb2 hrow hb c0 e1 e2 e3 e4 e5 hkd
        unfold pv
        have hq1000 : ps.length ≤ 1000 := by rw [HQ.out]; omega
        go_wp2_with (at_builtin; refine wpList_append_val rfl (.tmp 33) (.tmp 39) rfl w2 w.heap.size _ ps HROW2.out rfl (pv kd n1 a1 m1 c1' b1 x1 none 0 0) s _ HX.out rfl rfl rfl hq1000 HB2.out.size ?_; intro v6 w6 hr6 hb6)
        have HR6 : Hid ((ps ++ [(pv kd n1 a1 m1 c1' b1 x1 none 0 0, s)]).length = i + 1 ∧ RowX w6 w.heap.size v6 (ps ++ [(pv kd n1 a1 m1 c1' b1 x1 none 0 0, s)])) := ⟨by simp [HQ.out], hr6⟩
        have HB6 := Lib.hid (HB2.out.trans hb6)
        clear hr6 hb6
        go_roundg (16 - (i + 1))
        case measure => have := HK.out; omega
        case rel => exact ⟨i + 1, _, by go_num, by omega, by have := HK.out; omega, HR6, HB6⟩
    · have HR := Lib.hid hrow.out
      have HB9 := Lib.hid hb.out
      clear hrow hb
      by_cases h1 : i < len
      · have d1 : decide ((i : Int) < (len : Int)) = true := by simp; omega
        have d2 : decide ((i : Int) < 16) = false := by simp; omega
        go_wp2
        go_ret
        exact ⟨_, ps, rfl, HR.out.2, by rw [HR.out.1]; have := HK.out; omega, HB9.out⟩
      · have d1 : decide ((i : Int) < (len : Int)) = false := by simp; omega
        go_wp2
        go_ret
        exact ⟨_, ps, rfl, HR.out.2, by rw [HR.out.1]; have := HK.out; omega, HB9.out⟩
end Go.Proofs.YteibkaonofkcbaaGreat
