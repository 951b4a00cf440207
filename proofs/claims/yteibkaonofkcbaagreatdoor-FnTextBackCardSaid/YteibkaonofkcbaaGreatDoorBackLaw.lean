/- The law's walk: what is split is, joined, the text. -/
import Derived.Test.YteibkaonofkcbaaGreatDoorTextS
import Derived.Test.YteibkaonofkcbaaGreatDoorTextJ
import Derived.Test.YteibkaonofkcbaaGreatDoorSmall
namespace Go.Proofs.YteibkaonofkcbaaGreatDoor
open Go.RowKit
attribute [local go_sem ↓] Go.wp_at_zero Go.wp_at_succ
def cOf (bd : Bool) (k : Int) : Option Int := if bd then some k else none
set_option maxRecDepth 100000 in
set_option maxHeartbeats 8000000 in
theorem back_law (back : Bool) (s t : ByteArray) (k : Int) (bd : Bool) (w : World) (hs : s.size ≤ maxLen) (ht : t.size ≤ maxLen) (hk : (Lit.int .i8 k).wf = true) :
    Calls Tryz.prog 3 #[.bool back, .string s, .string t, .int .i8 k, .bool bd] w fun e w' => e = .returned (.bool true) ∧ Below w.heap.size w w' := by
  have hk2 : -128 ≤ k ∧ k ≤ 127 := by simp [Lit.wf, IntKind.min, IntKind.max, IntKind.signed, IntKind.bits] at hk; omega
  have HK := Lib.hid hk2
  obtain ⟨kb1, kb2⟩ := hk2
  have kw : wrap64 k = k := by unfold wrap64; omega
  clear hk
  by_cases h1 : 2147483647 < s.size
  · have d1 : decide ((2147483647 : Int) < (s.size : Int)) = true := by simp; omega
    clear h1
    go_enter Tryz.func3, Tryz.ntmps3
    go_wp2
    go_ret
    exact ⟨rfl, Below.refl _ _⟩
  · have d1 : decide ((2147483647 : Int) < (s.size : Int)) = false := by simp; omega
    by_cases h2 : 2147483647 < t.size
    · have d2 : decide ((2147483647 : Int) < (t.size : Int)) = true := by simp; omega
      clear h2
      go_enter Tryz.func3, Tryz.ntmps3
      go_wp2
      go_ret
      exact ⟨rfl, Below.refl _ _⟩
    · have d2 : decide ((2147483647 : Int) < (t.size : Int)) = false := by simp; omega
      have HSE : Hid ((s.extract 0 (min (s.size : Int) 200).toNat).size ≤ 200) := by unfold Hid; simp; omega
      have HTE : Hid ((t.extract 0 (min (t.size : Int) 20).toNat).size ≤ 20) := by unfold Hid; simp; omega
      have a1 : 0 ≤ min (s.size : Int) 200 := by omega
      have a2 : min (s.size : Int) 200 ≤ s.size := by omega
      have a3 : 0 ≤ min (t.size : Int) 20 := by omega
      have a4 : min (t.size : Int) 20 ≤ t.size := by omega
      clear h1 h2
      go_enter Tryz.func3, Tryz.ntmps3
      go_upto_region 3 with fail
      go_cut [11, 12] (fun u v wx => ∃ S P : ByteArray, u = .string S ∧ v = .string P ∧ S.size ≤ 200 ∧ P.size ≤ 20 ∧ Hid (Below w.heap.size w wx))
      case first =>
        go_region
        all_goals
          go_wp2
          go_meet
          exact ⟨_, _, rfl, rfl, HSE.out, HTE.out, (Below.refl _ _).drew⟩
      case rest =>
        obtain ⟨S, P, rfl, rfl, hS, hP, HB0⟩ := hcut
        clear a1 a2 a3 a4 HSE HTE d1 d2
        go_upto_region 4 with fail
        go_cut [45] (fun v wx => ∃ b' : Bool, v = .bool b' ∧ (b' = false → 1 ≤ P.size) ∧ Hid (Below w.heap.size w wx))
        case first =>
          have hwr : ∀ w', Below wc.heap.size wc w' → Hid (Below w.heap.size w w') := fun w' h => HB0.out.trans (h.mono HB0.out.size)
          have HWR := Lib.hid hwr
          clear hwr
          by_cases hp0 : P.size = 0
          · have hb := emp_true hp0
            go_wp2_with fail
            go_meet
            exact ⟨true, rfl, (fun h => by simp at h), HB0⟩
          · have hb := emp_false (s := P) (by omega)
            cases back with
            | false =>
              go_wp2_with fail
              go_meet
              exact ⟨false, rfl, fun _ => by omega, HB0⟩
            | true =>
              go_wp2_with fail
              refine (over_any P _ (by omega)).mono ?_
              rintro e w' ⟨b, rfl, hb2⟩
              have HB2 := HWR.out _ hb2
              clear hb2
              go_wp2_with fail
              go_meet
              exact ⟨b, rfl, fun _ => by omega, HB2⟩
        case rest =>
          obtain ⟨b', rfl, hb1, HB1⟩ := hcut
          clear HB0
          go_upto_if 45 with fail
          go_cut [12] (fun v wx => ∃ Q : ByteArray, v = .string Q ∧ 1 ≤ Q.size ∧ Q.size ≤ 20 ∧ Hid (Below w.heap.size w wx))
          case first =>
            cases b' with
            | false =>
              go_wp2
              go_meet
              exact ⟨P, rfl, (by simpa using hb1), hP, HB1⟩
            | true =>
              go_wp2
              go_meet
              exact ⟨⟨#[44]⟩, rfl, by decide, by decide, HB1⟩
          case rest =>
            obtain ⟨Q, rfl, hQ1, hQ2, HB2⟩ := hcut
            clear HB1 hb1 hP
            go_upto_if 46 with fail
            go_cut [13] (fun v wx => Hid (CntV wx 0 v (cOf bd k)) ∧ Hid (Below w.heap.size w wx))
            case first =>
              cases bd with
              | false =>
                go_wp2
                go_meet
                exact ⟨.inl ⟨rfl, rfl⟩, HB2⟩
              | true =>
                go_wp2_with fail
                refine (small_any k (by have := HK.out; unfold W64; omega) _).mono ?_
                rintro e wq ⟨vs, neg, l, rfl, hsi, hby, hnum, hbc⟩
                have HBC := Lib.hid (HB2.out.trans (hbc.mono HB2.out.size))
                have hl8 := intOf2_len (sint_head hsi) hnum (by have := HK.out; omega) (by have := HK.out; omega)
                have HNUM := Lib.hid hnum
                have HIV := Lib.hid (intval_any _ _ _ _ _ hsi (by omega))
                clear hsi hby hbc hnum hl8
                go_wp2_with fail
                refine HIV.out.mono ?_
                rintro e wd ⟨vi, rfl, hiv, hbd⟩
                have HBD := Lib.hid (HBC.out.trans (hbd.mono HBC.out.size))
                have hpv : PVal wd 0 vi (.int k) := ⟨neg, l, hiv.base (Nat.zero_le _), HNUM.out⟩
                obtain ⟨ng, na, nn, nc, nx, rfl⟩ := hpv.pv
                have HPV := Lib.hid hpv
                clear hiv hbd hpv
                unfold pv kindOf
                obtain ⟨wx, hwx⟩ : ∃ wx, wx = wd.alloc (.cells #[.int .i64 2, .bool ng, .slice na nn nc, .int .u64 0, .string nx, .slice none 0 0] 28) := ⟨_, rfl⟩
                have HCV : Hid (CntV wx 0 (.slice (some ⟨wd.heap.size, 0, none⟩) 1 1) (some k)) := by
                  have hkx : Blk wx wd.heap.size 28 #[.int .i64 2, .bool ng, .slice na nn nc, .int .u64 0, .string nx, .slice none 0 0] := by rw [hwx]; exact Blk.new _ _ _
                  refine .inr ⟨k, wd.heap.size, 1, rfl, rfl, hkx.lt, fun i hi => ?_⟩
                  match i, hi with
                  | 0, _ => exact ⟨ng, na, nn, nc, nx, HPV.out.below (by rw [hwx]; exact (Below.refl _ wd).alloc (Nat.le_refl _) _), (hkx.cell 0).trans rfl, (hkx.cell 1).trans rfl, (hkx.cell 2).trans rfl, (hkx.cell 3).trans rfl, (hkx.cell 4).trans rfl, (hkx.cell 5).trans rfl⟩
                have HWX : Hid (Below w.heap.size w wx) := by rw [hwx]; exact HBD.out.alloc HBD.out.size _
                have HXE := Lib.hid hwx
                clear hwx
                go_wp2_with fail
                rw [← HXE.out]
                go_meet
                exact ⟨HCV.out, HWX⟩
            case rest =>
              obtain ⟨HCV, HB3⟩ := hcut
              obtain ⟨cv, hcv⟩ : ∃ cv, cv = cOf bd k := ⟨_, rfl⟩
              have HCVE := Lib.hid hcv
              have HCO : Hid (∀ n, cv = some n → -1000 ≤ n ∧ n ≤ 999) := fun n hn => by
                rw [hcv] at hn
                unfold cOf at hn
                split at hn
                · injection hn with hn; subst hn; have := HK.out; omega
                · cases hn
              rw [← hcv] at HCV
              clear hcv HB2
              have HBA := Lib.hid ((Below.refl wc.heap.size wc).alloc (Nat.le_refl _) (.cells #[.string Q] 9))
              go_wp2_with fail
              refine (text_split back S Q wc.heap.size 1 0 _ cv _ (by omega) (by omega) hQ1 HCO.out (((Blk.new wc 9 #[.string Q]).cell 0).trans rfl) (HCV.out.below HBA.out)).mono ?_
              rintro e w5 ⟨v5, ts, rfl, hr5, hj, hne, hlen, hcnt, hb5⟩
              obtain ⟨a5, c5, rfl⟩ := hr5.form
              obtain ⟨n5, hn5⟩ : ∃ n, n = ts.length := ⟨_, rfl⟩
              have HB5 := Lib.hid ((HB3.out.trans (HBA.out.mono HB3.out.size)).trans (hb5.mono (Nat.le_trans HB3.out.size HBA.out.size)))
              have hjs : (joinL Q.data.toList ts).length = S.size := by rw [hj]; simp
              have HTJ := Lib.hid (text_join Q a5 n5 c5 ts w5 (by omega) (by omega) (by omega) hne hr5.at hn5.symm)
              have HSE : Hid ((⟨(joinL Q.data.toList ts).toArray⟩ : ByteArray) = S) := by unfold Hid; rw [hj]
              have HCN : Hid (bd = true → 0 ≤ k → (n5 : Int) ≤ k + 1) := fun h1 h2 => by
                rw [hn5]
                refine hcnt k ?_ h2
                rw [HCVE.out, h1]
                rfl
              rw [← hn5]
              clear hr5 hj hne hlen hcnt hb5 hjs hn5
              go_wp2_with fail
              refine HTJ.out.mono ?_
              rintro e w6 ⟨rfl, hb6⟩
              rw [HSE.out]
              have HB6 := Lib.hid (HB5.out.trans (hb6.mono HB5.out.size))
              clear hb6 HTJ
              cases bd with
              | false =>
                go_wp2
                go_ret
                exact ⟨rfl, HB6.out⟩
              | true =>
                by_cases hk0 : k < 0
                · have hd : decide (k < 0) = true := decide_eq_true hk0
                  go_wp2
                  go_ret
                  exact ⟨rfl, HB6.out⟩
                · have hd : decide (k < 0) = false := decide_eq_false hk0
                  have hle : decide ((n5 : Int) ≤ k + 1) = true := decide_eq_true (HCN.out rfl (by omega))
                  go_wp2
                  go_ret
                  exact ⟨rfl, HB6.out⟩
end Go.Proofs.YteibkaonofkcbaaGreatDoor
