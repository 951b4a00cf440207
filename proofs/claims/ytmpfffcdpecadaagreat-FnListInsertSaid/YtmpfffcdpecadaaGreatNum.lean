/- A value's number, as the reference has it; whether it has room. -/
import Derived.Test.YtmpfffcdpecadaaGreatSI64
import Derived.Test.YtmpfffcdpecadaaGreatIntVal
namespace Go.Proofs.YtmpfffcdpecadaaGreat
open Go.RowKit
attribute [local go_sem ↓] Go.wp_at_zero Go.wp_at_succ
/-- A value of the thin package, cell by cell. -/
def pv (k : Int) (neg : Bool) (a : Option Addr) (n c : Nat) (bits : Int) (tx : ByteArray) (ka : Option Addr) (kn kc : Nat) : Value := .agg #[.int .i64 k, .bool neg, .slice a n c, .int .u64 bits, .string tx, .slice ka kn kc]
set_option maxRecDepth 100000 in
set_option maxHeartbeats 2000000 in
theorem fits_any (k : Int) (neg : Bool) (a : Option Addr) (n c : Nat) (bits : Int) (tx : ByteArray) (ka : Option Addr) (kn kc : Nat) (w : World) (b : Bool) (hb : b = decide (n ≤ 2147483647 ∧ tx.size ≤ 2147483647 ∧ kn ≤ 2147483647)) :
    Calls Tryz.prog 5 #[pv k neg a n c bits tx ka kn kc] w fun e w' => e = .returned (.bool b) ∧ Below w.heap.size w w' := by
  unfold pv
  have HB := Lib.hid ((Below.refl w.heap.size w).alloc (Nat.le_refl _) (.cells #[.int .i64 k, .bool neg, .slice a n c, .int .u64 bits, .string tx, .slice ka kn kc] 26))
  have HH := Lib.hid hb
  clear hb
  by_cases h1 : 2147483647 < n
  · have hd : decide ((2147483647 : Int) < (n : Int)) = true := by simp; omega
    have HR : Hid (b = false) := by unfold Hid; rw [HH.out]; simp; omega
    clear h1
    go_enter Tryz.func5, Tryz.ntmps5
    go_wp2
    go_ret
    exact ⟨by rw [HR.out]; rfl, HB.out⟩
  · have hd : decide ((2147483647 : Int) < (n : Int)) = false := by simp; omega
    by_cases h2 : 2147483647 < tx.size
    · have hd2 : decide ((2147483647 : Int) < (tx.size : Int)) = true := by simp; omega
      have HR : Hid (b = false) := by unfold Hid; rw [HH.out]; simp; omega
      clear h1 h2
      go_enter Tryz.func5, Tryz.ntmps5
      go_wp2
      go_ret
      exact ⟨by rw [HR.out]; rfl, HB.out⟩
    · have hd2 : decide ((2147483647 : Int) < (tx.size : Int)) = false := by simp; omega
      by_cases h3 : 2147483647 < kn
      · have hd3 : decide ((2147483647 : Int) < (kn : Int)) = true := by simp; omega
        have HR : Hid (b = false) := by unfold Hid; rw [HH.out]; simp; omega
        clear h1 h2 h3
        go_enter Tryz.func5, Tryz.ntmps5
        go_wp2
        go_ret
        exact ⟨by rw [HR.out]; rfl, HB.out⟩
      · have hd3 : decide ((2147483647 : Int) < (kn : Int)) = false := by simp; omega
        have HR : Hid (b = true) := by unfold Hid; rw [HH.out]; simp; omega
        clear h1 h2 h3
        go_enter Tryz.func5, Tryz.ntmps5
        go_wp2
        go_ret
        exact ⟨by rw [HR.out]; rfl, HB.out⟩
set_option maxRecDepth 100000 in
set_option maxHeartbeats 2000000 in
theorem num_any (k : Int) (neg : Bool) (a : Option Addr) (n c : Nat) (bits : Int) (tx : ByteArray) (ka : Option Addr) (kn kc : Nat) (l : List Nat) (w : World) (hb : BSl w (.slice a n c) l) (hl : l.length ≤ 70368744177664) :
    Calls Tryz.prog 26 #[pv k neg a n c bits tx ka kn kc] w (OfPost neg l w) := by
  unfold pv
  have HB0 := Lib.hid (((Below.refl w.heap.size w).alloc (Nat.le_refl _) (.cells #[.int .i64 k, .bool neg, .slice a n c, .int .u64 bits, .string tx, .slice ka kn kc] 26)).alloc (by simp) (.cells #[.bool false, .slice none 0 0] 40))
  have HB := Lib.hid (hb.old HB0.out)
  have HL := Lib.hid hl
  have HK := Lib.hid (Blk.new_at (w.alloc (.cells #[.int .i64 k, .bool neg, .slice a n c, .int .u64 bits, .string tx, .slice ka kn kc] 26)) 40 #[.bool false, .slice none 0 0] (n := w.heap.size + 1) (by simp))
  clear hb hl
  go_enter Tryz.func26, Tryz.ntmps26
  go_wp2_with fail
  refine (of_any neg a n c l _ HB.out HL.out).mono ?_
  rintro e w1 ⟨v, rfl, hsi, hb1⟩
  obtain ⟨vs, hv, ho, hhd, hng⟩ := hsi
  obtain ⟨nb, hnb⟩ : ∃ nb, nb = negOf neg l := ⟨_, rfl⟩
  rw [← hnb] at hv
  obtain ⟨g, cc, hvs, hg1, hg2, _, _⟩ := ho.form
  obtain ⟨r, hr⟩ : ∃ r, r = (strip l).length := ⟨_, rfl⟩
  rw [← hr] at hvs
  subst hvs
  subst hv
  have hsz : (w.heap.size + 1 + 1) ≤ g := by simpa using hg1
  have k0 := HK.out.below hb1 (by simp)
  obtain ⟨c0, c1, f0, f1⟩ := blk2 k0
  have HO := Lib.hid ho
  have HNB := Lib.hid hnb
  have HHD := Lib.hid hhd
  have HNG := Lib.hid hng
  have HB1 : Hid (Below w.heap.size w w1) := HB0.out.trans (hb1.mono (by simp; omega))
  clear hb1 ho hnb hhd hng hr hg1 hg2 k0
  go_wp2
  refine bodyPost_ret (v := .agg #[.bool nb, .slice (some ⟨g, 0, none⟩) r cc]) (by simp [results, Tryz.results26, go_sem, c0, c1]) rfl ⟨_, rfl, ⟨.slice (some ⟨g, 0, none⟩) r cc, by rw [HNB.out], ?_, HHD.out, HNG.out⟩, ?_⟩
  · exact (HO.out.only (two_set w1 (w.heap.size + 1) (.bool nb) (.slice (some ⟨g, 0, none⟩) r cc)) (fun k hk e => by simp at hk; omega)).base (by simp; omega)
  · exact HB1.out.trans ((two_set w1 (w.heap.size + 1) (.bool nb) (.slice (some ⟨g, 0, none⟩) r cc)).to_below HB1.out.size (fun k _ e => by omega))
end Go.Proofs.YtmpfffcdpecadaaGreat
