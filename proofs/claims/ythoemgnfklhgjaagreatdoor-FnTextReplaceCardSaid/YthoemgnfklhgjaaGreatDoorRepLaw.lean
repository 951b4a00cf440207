/- The law's walk: a text with another part in each place of one. -/
import Derived.Test.YthoemgnfklhgjaaGreatDoorAskedR
import Derived.Test.YthoemgnfklhgjaaGreatDoorTextRep
namespace Go.Proofs.YthoemgnfklhgjaaGreatDoor
open Go.RowKit
attribute [local go_sem ↓] Go.wp_at_zero Go.wp_at_succ
set_option maxRecDepth 100000 in
set_option maxHeartbeats 8000000 in
theorem rep_law (s t u : ByteArray) (k : Int) (b : Bool) (w : World) (hs : s.size ≤ maxLen) (ht : t.size ≤ maxLen) (hu : u.size ≤ maxLen) (hk : (Lit.int .i8 k).wf = true) :
    Calls Tryz.prog 3 #[.string s, .string t, .string u, .int .i8 k, .bool b] w fun e w' => e = .returned (.bool true) ∧ Below w.heap.size w w' := by
  have hk2 : -128 ≤ k ∧ k ≤ 127 := by simp [Lit.wf, IntKind.min, IntKind.max, IntKind.signed, IntKind.bits] at hk; omega
  have HK := Lib.hid hk2
  obtain ⟨kb1, kb2⟩ := hk2
  have kw : wrap64 k = k := by unfold wrap64; omega
  clear hk
  by_cases h1 : 2147483647 < s.size
  · have d1 : decide ((2147483647 : Int) < (s.size : Int)) = true := by simp; omega
    clear h1
    go_enter Tryz.func3, Tryz.ntmps3
    go_wp2
    go_ret
    exact ⟨rfl, Below.refl _ _⟩
  · have d1 : decide ((2147483647 : Int) < (s.size : Int)) = false := by simp; omega
    by_cases h2 : 2147483647 < t.size
    · have d2 : decide ((2147483647 : Int) < (t.size : Int)) = true := by simp; omega
      clear h2
      go_enter Tryz.func3, Tryz.ntmps3
      go_wp2
      go_ret
      exact ⟨rfl, Below.refl _ _⟩
    · have d2 : decide ((2147483647 : Int) < (t.size : Int)) = false := by simp; omega
      by_cases h3 : 2147483647 < u.size
      · have d3 : decide ((2147483647 : Int) < (u.size : Int)) = true := by simp; omega
        clear h3
        go_enter Tryz.func3, Tryz.ntmps3
        go_wp2
        go_ret
        exact ⟨rfl, Below.refl _ _⟩
      · have d3 : decide ((2147483647 : Int) < (u.size : Int)) = false := by simp; omega
        clear h1 h2 h3
        go_enter Tryz.func3, Tryz.ntmps3
        go_wp2_with fail
        refine (ascii_any s hs _).mono ?_
        rintro e w1 ⟨s', rfl, hsa, hb1⟩
        have HSA := Lib.hid hsa
        have HB1 := Lib.hid hb1
        clear hsa hb1
        go_wp2_with fail
        refine (ascii_any t ht _).mono ?_
        rintro e w2 ⟨t', rfl, hta, hb2⟩
        have HTA := Lib.hid hta
        have HB2 := Lib.hid (HB1.out.trans (hb2.mono HB1.out.size))
        clear hta hb2
        go_wp2_with fail
        refine (ascii_any u hu _).mono ?_
        rintro e w3 ⟨u', rfl, hua, hb3⟩
        have HUA := Lib.hid hua
        have HB3 := Lib.hid (HB2.out.trans (hb3.mono HB2.out.size))
        clear hua hb3
        cases b with
        | false =>
          have HCV : Hid (CntV w3 0 (.slice none 0 0) none) := .inl ⟨rfl, rfl⟩
          have HCO : Hid (CountOk none) := fun n hn => by simp at hn
          have HWX := HB3
          go_wp2_with fail
          refine (text_val t' _).mono ?_
          rintro e wa ⟨rfl, hba⟩
          have HBA := Lib.hid hba
          clear hba
          go_wp2_with fail
          refine (text_val u' _).mono ?_
          rintro e wb ⟨rfl, hbb⟩
          have HBB := Lib.hid (HBA.out.trans (hbb.mono HBA.out.size))
          clear hbb
          unfold pStr
          go_wp2_with (at_builtin; refine wpList_app_vals w3 _ t' u' none _ _ rfl (.tmp 52) (.tmp 53) rfl rfl rfl HCV.out ?c1 ?c2 ?c3 ?_)
          case c1 => exact HBB.out.alloc HBB.out.size _
          case c2 => exact HBB.out.size
          case c3 => exact Blk.new _ _ _
          intro G' cap w4 hra hb4
          have HRA := Lib.hid hra
          have HB4 := Lib.hid hb4
          clear hra hb4
          go_wp2_with fail
          refine (asked_r s' t' u' G' cap none _ HSA.out.1 HTA.out.1 HUA.out.1 HCO.out HRA.out).mono ?_
          rintro e w5 ⟨rfl, hb5⟩
          obtain ⟨R, hR⟩ : ∃ R, R = repB s' t' u' (cntOf none) := ⟨_, rfl⟩
          rw [← hR]
          have HB5 := Lib.hid (HB4.out.trans (hb5.mono HB4.out.size))
          have HB6 := Lib.hid (HB5.out.alloc HB5.out.size (.cells #[.int .i64 4, .bool false, .slice none 0 0, .int .u64 0, .string R, .slice none 0 0] 28))
          have HK6 := Lib.hid (Blk.new w5 28 #[.int .i64 4, .bool false, .slice none 0 0, .int .u64 0, .string R, .slice none 0 0])
          have HTR := Lib.hid (fun W hW => text_replace s' t' u' 0 _ none W HSA.out HTA.out.1 HUA.out.1 HCO.out (HCV.out.below (w' := W) hW))
          rw [← hR] at HTR
          clear hb5 hR
          unfold pStr
          go_wp2_with fail
          refine (HTR.out _ HB6.out).mono ?_
          rintro e w7 ⟨rfl, hb7⟩
          have hk7 := HK6.out.below hb7 HK6.out.lt
          obtain ⟨c0, c1, c2, c3, c4, c5, f0, f1, f2, f3, f4, f5⟩ := blk6 hk7
          have HB7 := Lib.hid (HB6.out.trans (hb7.mono HB6.out.size))
          clear hb7 hk7
          go_wp2
          go_ret
          exact ⟨rfl, HWX.out.trans (HB7.out.mono HWX.out.size)⟩
        | true =>
          go_wp2_with fail
          refine (small_any k (by have := HK.out; unfold W64; omega) _).mono ?_
          rintro e wc ⟨vs, neg, l, rfl, hsi, hby, hnum, hbc⟩
          have HBC := Lib.hid (HB3.out.trans (hbc.mono HB3.out.size))
          have hl8 := intOf2_len (sint_head hsi) hnum (by have := HK.out; omega) (by have := HK.out; omega)
          have HNUM := Lib.hid hnum
          have HIV := Lib.hid (intval_any _ _ _ _ _ hsi (by omega))
          clear hsi hby hbc hnum hl8
          go_wp2_with fail
          refine HIV.out.mono ?_
          rintro e wd ⟨vi, rfl, hiv, hbd⟩
          have HBD := Lib.hid (HBC.out.trans (hbd.mono HBC.out.size))
          have hpv : PVal wd 0 vi (.int k) := ⟨neg, l, hiv.base (Nat.zero_le _), HNUM.out⟩
          obtain ⟨ng, na, nn, nc, nx, rfl⟩ := hpv.pv
          have HPV := Lib.hid hpv
          clear hiv hbd hpv
          unfold pv kindOf
          have HCO : Hid (CountOk (some k)) := fun n hn => by injection hn with hn; subst hn; have := HK.out; omega
          obtain ⟨wx, hwx⟩ : ∃ wx, wx = wd.alloc (.cells #[.int .i64 2, .bool ng, .slice na nn nc, .int .u64 0, .string nx, .slice none 0 0] 28) := ⟨_, rfl⟩
          have HCV : Hid (CntV wx 0 (.slice (some ⟨wd.heap.size, 0, none⟩) 1 1) (some k)) := by
            have hkx : Blk wx wd.heap.size 28 #[.int .i64 2, .bool ng, .slice na nn nc, .int .u64 0, .string nx, .slice none 0 0] := by rw [hwx]; exact Blk.new _ _ _
            refine .inr ⟨k, wd.heap.size, 1, rfl, rfl, hkx.lt, fun i hi => ?_⟩
            match i, hi with
            | 0, _ => exact ⟨ng, na, nn, nc, nx, HPV.out.below (by rw [hwx]; exact (Below.refl _ wd).alloc (Nat.le_refl _) _), (hkx.cell 0).trans rfl, (hkx.cell 1).trans rfl, (hkx.cell 2).trans rfl, (hkx.cell 3).trans rfl, (hkx.cell 4).trans rfl, (hkx.cell 5).trans rfl⟩
          have HWX : Hid (Below w.heap.size w wx) := by rw [hwx]; exact HBD.out.alloc HBD.out.size _
          have HXE := Lib.hid hwx
          clear hwx
          go_upto_region 7 with fail
          rw [← HXE.out]
          go_wp2_with fail
          refine (text_val t' _).mono ?_
          rintro e wa ⟨rfl, hba⟩
          have HBA := Lib.hid hba
          clear hba
          go_wp2_with fail
          refine (text_val u' _).mono ?_
          rintro e wb ⟨rfl, hbb⟩
          have HBB := Lib.hid (HBA.out.trans (hbb.mono HBA.out.size))
          clear hbb
          unfold pStr
          go_wp2_with (at_builtin; refine wpList_app_vals wx _ t' u' (some k) _ _ rfl (.tmp 52) (.tmp 53) rfl rfl rfl HCV.out ?c1 ?c2 ?c3 ?_)
          case c1 => exact HBB.out.alloc HBB.out.size _
          case c2 => exact HBB.out.size
          case c3 => exact Blk.new _ _ _
          intro G' cap w4 hra hb4
          have HRA := Lib.hid hra
          have HB4 := Lib.hid hb4
          clear hra hb4
          go_wp2_with fail
          refine (asked_r s' t' u' G' cap (some k) _ HSA.out.1 HTA.out.1 HUA.out.1 HCO.out HRA.out).mono ?_
          rintro e w5 ⟨rfl, hb5⟩
          obtain ⟨R, hR⟩ : ∃ R, R = repB s' t' u' (cntOf (some k)) := ⟨_, rfl⟩
          rw [← hR]
          have HB5 := Lib.hid (HB4.out.trans (hb5.mono HB4.out.size))
          have HB6 := Lib.hid (HB5.out.alloc HB5.out.size (.cells #[.int .i64 4, .bool false, .slice none 0 0, .int .u64 0, .string R, .slice none 0 0] 28))
          have HK6 := Lib.hid (Blk.new w5 28 #[.int .i64 4, .bool false, .slice none 0 0, .int .u64 0, .string R, .slice none 0 0])
          have HTR := Lib.hid (fun W hW => text_replace s' t' u' 0 _ (some k) W HSA.out HTA.out.1 HUA.out.1 HCO.out (HCV.out.below (w' := W) hW))
          rw [← hR] at HTR
          clear hb5 hR
          unfold pStr
          go_wp2_with fail
          refine (HTR.out _ HB6.out).mono ?_
          rintro e w7 ⟨rfl, hb7⟩
          have hk7 := HK6.out.below hb7 HK6.out.lt
          obtain ⟨c0, c1, c2, c3, c4, c5, f0, f1, f2, f3, f4, f5⟩ := blk6 hk7
          have HB7 := Lib.hid (HB6.out.trans (hb7.mono HB6.out.size))
          clear hb7 hk7
          go_wp2
          go_ret
          exact ⟨rfl, HWX.out.trans (HB7.out.mono HWX.out.size)⟩
end Go.Proofs.YthoemgnfklhgjaaGreatDoor
