/- The package's own door to split, and impl.ofTexts behind it. -/
import Derived.Test.YteibkaonofkcbaaGreatDoorStrSplit
namespace Go.Proofs.YteibkaonofkcbaaGreatDoor
open Go.RowKit
attribute [local go_sem ↓] Go.wp_at_zero Go.wp_at_succ
set_option maxHeartbeats 1600000 in
theorem zz_call_split (s p name : ByteArray) (A ca : Nat) (c : Option Int) (w : World) (hs : s.size ≤ 1000) (hp : p.size ≤ 1000) (hp1 : 1 ≤ p.size) (hc : ∀ n, c = some n → -1000 ≤ n ∧ n ≤ 999) (hA : SplitArgs w A p c) (hname : name = ⟨#[115, 112, 108, 105, 116]⟩ ∨ name = ⟨#[114, 115, 112, 108, 105, 116]⟩) :
    Calls Tryz.prog 21 #[.string name, .func (.func 22) #[] #[], .string s, .slice (some ⟨A, 0, none⟩) (cntPN c) ca] w (SplitVPost s p c w) := by
  have HA := Lib.hid hA
  have HC := Lib.hid hc
  have HNM := Lib.hid hname
  clear hA hc hname
  go_enter Tryz.func21, Tryz.ntmps21
  go_wp2_with fail
  refine (new_builtin _ _ _).mono ?_
  rintro e w1 ⟨b, rfl, hB, hb⟩
  have HB := Lib.hid hB
  clear hB
  go_wp2_with fail
  refine (bind_recv _ _ b s _ HB.out).mono ?_
  rintro e w2 ⟨b2, rfl, hB2, hb2⟩
  have HB2 := Lib.hid hB2
  have hbn := hb.trans (hb2.mono hb.size)
  have HBN := Lib.hid hbn
  clear hB2 HB hb hb2 hbn
  go_wp2_with fail
  refine (string_split_l s p _ _ b2 A ca c _ hs hp hp1 HC.out HNM.out HB2.out (HA.out.below HBN.out)).mono ?_
  rintro e w3 ⟨L, a, n, cc, ts, rfl, h1, h2, h3, h4, h5, h6, h7, hb3⟩
  have HB3 := Lib.hid (HBN.out.trans (hb3.mono HBN.out.size))
  have HR := Lib.hid (And.intro h1 (And.intro h2 (And.intro h3 (And.intro h4 (And.intro h5 (And.intro h6 h7))))))
  clear hb3 HB2 h1 h2 h3 h4 h5 h6 h7
  go_wp2
  go_ret2
  obtain ⟨h1, h2, h3, h4, h5, h6, h7⟩ := HR.out
  exact ⟨L, a, n, cc, ts, rfl, h1, h2, h3, h4, h5, h6, h7, HB3.out⟩
set_option maxHeartbeats 1600000 in
theorem zz_split_pub (s p name : ByteArray) (A ca : Nat) (c : Option Int) (w : World) (hs : s.size ≤ 1000) (hp : p.size ≤ 1000) (hp1 : 1 ≤ p.size) (hc : ∀ n, c = some n → -1000 ≤ n ∧ n ≤ 999) (hA : SplitArgs w A p c) (hname : name = ⟨#[115, 112, 108, 105, 116]⟩ ∨ name = ⟨#[114, 115, 112, 108, 105, 116]⟩) :
    Calls Tryz.prog 14 #[.string name, .string s, .slice (some ⟨A, 0, none⟩) (cntPN c) ca] w (SplitVPost s p c w) := by
  have HA := Lib.hid hA
  have HC := Lib.hid hc
  have HNM := Lib.hid hname
  clear hA hc hname
  go_enter Tryz.func14, Tryz.ntmps14
  go_wp2_with fail
  refine (zz_call_split s p name A ca c _ hs hp hp1 HC.out HA.out HNM.out).mono ?_
  rintro e w3 ⟨L, a, n, cc, ts, rfl, h1, h2, h3, h4, h5, h6, h7, hb3⟩
  have HR := Lib.hid (And.intro h1 (And.intro h2 (And.intro h3 (And.intro h4 (And.intro h5 (And.intro h6 (And.intro h7 hb3)))))))
  clear hb3 h1 h2 h3 h4 h5 h6 h7
  go_wp2
  go_ret2
  obtain ⟨h1, h2, h3, h4, h5, h6, h7, h8⟩ := HR.out
  exact ⟨L, a, n, cc, ts, rfl, h1, h2, h3, h4, h5, h6, h7, h8⟩
end Go.Proofs.YteibkaonofkcbaaGreatDoor
