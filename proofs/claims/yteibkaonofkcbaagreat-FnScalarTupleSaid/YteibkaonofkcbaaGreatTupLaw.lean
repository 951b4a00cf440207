/- The law's walk: a tuple of scalars. -/
import Derived.Test.YteibkaonofkcbaaGreatTupJoinQ
import Derived.Test.YteibkaonofkcbaaGreatOnlyT
import Derived.Test.YteibkaonofkcbaaGreatOpenSteps
import Derived.Test.YteibkaonofkcbaaGreatRunT
import Derived.Test.YteibkaonofkcbaaGreatScalT
import Derived.Test.YteibkaonofkcbaaGreatTupJoinO
import Derived.Deep.LoopGhost
namespace Go.Proofs.YteibkaonofkcbaaGreat
open Go.RowKit
set_option linter.unusedSimpArgs false
set_option linter.unusedVariables false
attribute [local go_sem ↓] Go.wp_at_zero Go.wp_at_succ
theorem ListIn.len {W : World} {a : Option Addr} {len cap : Nat} (h : ListIn W a len cap) : len ≤ maxLen := by
  rcases h with ⟨_, h0, _⟩ | ⟨x, _, h1, h2, _⟩
  · rw [h0]; exact Nat.zero_le _
  · exact Nat.le_trans h1 h2
theorem StepsIn.len {W : World} {a : Option Addr} {len cap : Nat} (h : StepsIn W a len cap) : len ≤ maxLen := by
  rcases h with ⟨_, h0, _⟩ | ⟨x, _, h1, h2, _⟩
  · rw [h0]; exact Nat.zero_le _
  · exact Nat.le_trans h1 h2
theorem ListIn.below' {w W : World} {a : Option Addr} {len cap : Nat} (h : ListIn w a len cap) (hb : Below w.heap.size w W) : ListIn W a len cap := by
  rcases h with h | ⟨x, h0, h1, h2, h3⟩
  · exact .inl h
  · exact .inr ⟨x, h0, h1, h2, fun i hi => (h3 i hi).below hb⟩
theorem kinds_six {w W : World} {t : TypeId} (h : Blk W w.heap.size t #[.int .i64 2, .int .i64 27, .int .i64 11, .int .i64 5, .int .i64 6, .int .i64 7]) : ∀ j : Nat, j < 6 → ∃ z, z ∈ ([2, 27, 11, 5, 6, 7] : List Int) ∧ W.cell? ⟨w.heap.size, j, none⟩ = some (.int .i64 z) := by
  obtain ⟨c0, c1, c2, c3, c4, c5, _⟩ := blk6 h
  intro j hj
  obtain rfl | rfl | rfl | rfl | rfl | rfl : j = 0 ∨ j = 1 ∨ j = 2 ∨ j = 3 ∨ j = 4 ∨ j = 5 := by omega
  · exact ⟨2, by decide, c0⟩
  · exact ⟨27, by decide, c1⟩
  · exact ⟨11, by decide, c2⟩
  · exact ⟨5, by decide, c3⟩
  · exact ⟨6, by decide, c4⟩
  · exact ⟨7, by decide, c5⟩
set_option maxRecDepth 100000 in
set_option maxHeartbeats 8000000 in
theorem tup_law (a b : Option Addr) (m c n d : Nat) (w : World) (hl : ListIn w a m c) (hs : StepsIn w b n d) :
    Calls Tryz.prog 3 #[.slice a m c, .slice b n d] w fun e w' => e = .returned (.bool true) ∧ Below w.heap.size w w' := by
  have hm := hl.len
  have hn := hs.len
  unfold maxLen at hm hn
  by_cases hbig : 2147483647 < m
  · have d1 : decide ((2147483647 : Int) < (m : Int)) = true := by simp; omega
    clear hl hs
    go_enter Tryz.func3, Tryz.ntmps3
    go_wp2
    go_ret
    exact ⟨rfl, Below.refl _ _⟩
  have d1 : decide ((2147483647 : Int) < (m : Int)) = false := by simp; omega
  by_cases hbig2 : 2147483647 < n
  · have d2 : decide ((2147483647 : Int) < (n : Int)) = true := by simp; omega
    clear hl hs
    go_enter Tryz.func3, Tryz.ntmps3
    go_wp2
    go_ret
    exact ⟨rfl, Below.refl _ _⟩
  have d2 : decide ((2147483647 : Int) < (n : Int)) = false := by simp; omega
  obtain ⟨W0, hW0⟩ : ∃ W0, W0 = w.alloc (.cells #[.int .i64 2, .int .i64 27, .int .i64 11, .int .i64 5, .int .i64 6, .int .i64 7] 3) := ⟨_, rfl⟩
  have hb0 : Below w.heap.size w W0 := by rw [hW0]; exact (Below.refl _ w).alloc (Nat.le_refl _) _
  have HK6 : Hid (Blk W0 w.heap.size 3 #[.int .i64 2, .int .i64 27, .int .i64 11, .int .i64 5, .int .i64 6, .int .i64 7]) := by rw [hW0]; exact Blk.new _ _ _
  have HSC := Lib.hid (spec_scalars a m c W0 (hl.below' hb0))
  have HSI := Lib.hid (hs.below hb0)
  have HB0 := Lib.hid hb0
  clear hl hs hb0
  go_enter Tryz.func3, Tryz.ntmps3
  go_upto_region 4 with fail
  rw [← hW0]
  clear hW0
  go_wp2_with fail
  refine HSC.out.mono ?_
  rintro e w1 ⟨v0, ps, rfl, hx, hp16, hb1⟩
  have HB1 := Lib.hid (HB0.out.trans (hb1.mono HB0.out.size))
  have HX0 := Lib.hid hx
  have HK61 := Lib.hid (HK6.out.below hb1 HK6.out.lt)
  have HSI1 := Lib.hid (HSI.out.below hb1)
  obtain ⟨aa, cc, hv0⟩ := hx.form
  obtain ⟨pn, hpn⟩ : ∃ pn, pn = ps.length := ⟨_, rfl⟩
  rw [← hpn] at hv0
  subst hv0
  have HPN := Lib.hid hpn
  clear hx hb1 hpn hp16
  go_wp2_with fail
  refine (spec_only b n d w.heap.size w1 HSI1.out HK61.out.lt (kinds_six HK61.out)).mono ?_
  rintro e w2 ⟨v2, st, rfl, hst, h60, hk, hb2⟩
  have HB2 := Lib.hid (HB1.out.trans (hb2.mono HB1.out.size))
  have HX2 := Lib.hid (HX0.out.below hb2)
  have HST := Lib.hid hst
  have H60 := Lib.hid h60
  have HKD := Lib.hid hk
  clear hst hk hb2 h60
  go_wp2_with fail
  refine (spec_runlist _ _ pn cc aa ps v2 st w2 HX2.out HPN.out.symm HST.out H60.out HKD.out).mono ?_
  rintro e w3 ⟨f1, qs, f2, ss, f3, al, atE, rfl, hq, hq8, hss, hs60, hzz, hal, hruns, hb3⟩
  have HB3 := Lib.hid (HB2.out.trans (hb3.mono HB2.out.size))
  have hsz : w.heap.size ≤ w2.heap.size := HB2.out.size
  have hllen : al.length = ss.length := by
    have := hruns.1
    rwa [List.length_map] at this
  obtain ⟨a1, c1, hv1⟩ := hq.form
  obtain ⟨a2, c2, hv2⟩ := hss.form
  obtain ⟨a3, c3, hv3⟩ := hal.form
  obtain ⟨nq, hnq⟩ : ∃ nq, nq = qs.length := ⟨_, rfl⟩
  obtain ⟨ns, hns⟩ : ∃ ns, ns = ss.length := ⟨_, rfl⟩
  rw [← hnq] at hv1
  rw [← hns] at hv2 hs60
  rw [hllen, ← hns] at hv3
  subst hv1 hv2 hv3
  obtain ⟨C, hC⟩ : ∃ C, C = w2.heap.size := ⟨_, rfl⟩
  rw [← hC] at hq hss hal hsz
  have HQ := Lib.hid hq
  have HQ8 := Lib.hid hq8
  have HSS := Lib.hid hss
  have HZZ := Lib.hid hzz
  have HAL := Lib.hid hal
  have HRUN := Lib.hid hruns
  have HLL := Lib.hid hllen
  have HNQ := Lib.hid hnq
  have HNS := Lib.hid hns
  have HSM : Hid (∀ s ∈ qs.map (·.2), SmallX s) := fun s hs => by
    obtain ⟨p, hp, rfl⟩ := List.mem_map.1 hs
    exact (HQ.out.2 p hp).small
  clear hq hq8 hss hzz hal hruns hb3 hllen hnq hns HX2 HST HKD HK61 HSI1 HX0 HSC HSI HK6 hC
  go_wp2_with fail
  go_loopg [31] ns (fun k jv wr => ∃ (i : Nat) (cs : List (List Value × AA)), jv = .int .i64 (i : Int) ∧ Hid (k + i = ns) ∧ Hid (RowA (fun j => if j < i then 7 else 6) wr C (.slice a3 ns c3) cs ∧ cs.map (·.2) = al.map (·.2)) ∧ Hid (RowX wr C (.slice a1 nq c1) qs) ∧ Hid (RowSt wr C (.slice a2 ns c2) ss) ∧ Hid (Below w.heap.size w wr))
  case atStart => exact ⟨0, al, rfl, (by show ns + 0 = ns; rfl), ⟨HAL.out.kinds fun i a _ h => by simpa using h, rfl⟩, HQ.out, HSS.out, HB3.out⟩
  case round =>
    obtain ⟨i, cs, rfl, hki, hra, hrx, hrs, hb⟩ := hrel
    have hcl : cs.length = ns := by
      have := congrArg List.length hra.out.2
      rw [List.length_map, List.length_map, HLL.out] at this
      rw [HNS.out]; exact this
    by_cases hin : i < ns
    · have hd : decide ((i : Int) < (ns : Int)) = true := by simp; omega
      have hd2 : decide (i < ns) = true := by simp; omega
      have hi0 : (0 : Int) ≤ (i : Int) := by omega
      have hi1 : (i : Int) < (ns : Int) := by omega
      have il1 : i < cs.length := by rw [hcl]; exact hin
      have il3 : i < ss.length := by rw [← HNS.out]; exact hin
      have ilm : i < (al.map (·.2)).length := by rw [List.length_map, HLL.out]; exact il3
      obtain ⟨g1, k1, e1, l1, b1, q1⟩ := hra.out.1.at i il1
      obtain ⟨g3, k3, e3, l3, _, q3⟩ := hrs.out.at i il3
      injection e1 with e1 w1 w1'
      clear w1 w1'
      injection e3 with e3 w3 w3'
      clear w3 w3'
      subst e1 e3
      obtain ⟨b1', b2', hstep⟩ := HRUN.out.at i il3 ilm
      have hae : (al.map (·.2))[i]'ilm = (cs[i]'il1).2 := by
        have := congrArg (fun l => l[i]?) hra.out.2
        simp only [List.getElem?_map, List.getElem?_eq_getElem il1] at this
        have h2 : (al.map (·.2))[i]? = some (cs[i]'il1).2 := by rw [List.getElem?_map]; exact this.symm
        rw [List.getElem?_eq_getElem ilm] at h2
        exact Option.some.inj h2
      rw [hae] at hstep
      have hkind := hstep.kind.1
      have key3 : wr.cell? ⟨g3, i * 17, none⟩ = some (.int .i64 (ss[i]'il3).k) := (q3 0 (by omega)).trans rfl
      obtain ⟨sk, hsk⟩ : ∃ sk, sk = (ss[i]'il3).k := ⟨_, rfl⟩
      rw [← hsk] at key3 hkind
      obtain ⟨kv, hkv⟩ : ∃ kv, wr.cell? ⟨g1, i * 10 + 3, none⟩ = some (.int .i64 kv) := by
        obtain ⟨x, hx, hc⟩ := hra.out.1.2 i _ (List.getElem?_eq_getElem il1)
        have := q1 3 (by omega)
        rw [hc] at this
        obtain ⟨k, neg, a', m', c', bb, tx, ka, kn, kc, rfl⟩ := hx.form
        exact ⟨_, this⟩
      have hfz : wr.frozen? ⟨g1, i * 10 + 3, none⟩ = false := by
        obtain ⟨cs0, hk0⟩ := Blk.of_own (g := g1) (n := 0) (c := 0) hra.out.1.1 rfl
        exact hk0.frozen _
      have HKI := Lib.hid hki.out
      have HRA := Lib.hid hra.out
      have HRX := Lib.hid hrx.out
      have HRS := Lib.hid hrs.out
      have HB := Lib.hid hb.out
      have HIL := Lib.hid il1
      have HG1 : Hid (w.heap.size ≤ g1) := Nat.le_trans hsz b1
      clear hki hra hrx hrs hb hstep hae q1 q3 hsk il3 ilm b1 hcl
      by_cases h27 : sk = 27
      · subst h27
        obtain ⟨_, hmany⟩ | ⟨hno, _⟩ := hkind
        · have HM : Hid (∃ r, (cs[i]'HIL.out).2.v = .many r) := hmany
          clear hmany il1
          go_wp2_with fail
          go_roundg (ns - (i + 1))
          case measure => have := HKI.out; omega
          case rel =>
            have hO : Only (· = g1) wr (wr.setCell ⟨g1, i * 10 + 3, none⟩ (.int .i64 7)) := (Only.refl (· = g1) wr).setCell (p := ⟨g1, i * 10 + 3, none⟩) (.inl rfl) _
            obtain ⟨cs0, hk0⟩ := Blk.of_own (g := g1) (n := 0) (c := 0) HRA.out.1.1 rfl
            have hT := typ_one hk0
            refine ⟨i + 1, cs.set i ((cs[i]'HIL.out).1.set 3 (.int .i64 7), (cs[i]'HIL.out).2), by go_num, (by have := HKI.out; show ns - (i + 1) + (i + 1) = ns; omega), ⟨(HRA.out.1.put7 rfl i HIL.out HM.out).kinds fun j x hj h => ?_, ?_⟩, HRX.out.typ hT hO (by decide) (by decide), HRS.out.typ hT hO (by decide), HB.out.setCell (p := ⟨g1, i * 10 + 3, none⟩) HG1.out _⟩
            · by_cases h1 : j = i
              · subst h1; simpa using h
              · by_cases h2 : j < i
                · have h3 : j < i + 1 := by omega
                  simpa [h1, h2, h3] using h
                · have h3 : ¬ j < i + 1 := by omega
                  simpa [h1, h2, h3] using h
            · rw [← HRA.out.2, List.map_set]
              apply List.ext_getElem?
              intro j
              by_cases h1 : j = i
              · subst h1
                rw [List.getElem?_set_self (by rw [List.length_map]; exact HIL.out), List.getElem?_map, List.getElem?_eq_getElem HIL.out]
                rfl
              · rw [List.getElem?_set_ne (fun e => h1 e.symm)]
        · exact absurd rfl hno
      · have hk27 : (sk == 27) = false := by simp; exact h27
        obtain ⟨hy, _⟩ | ⟨_, hone⟩ := hkind
        · exact absurd hy h27
        · have HO : Hid (∃ x, (cs[i]'HIL.out).2.v = .one x) := hone
          clear hone h27 il1
          go_wp2_with fail
          go_roundg (ns - (i + 1))
          case measure => have := HKI.out; omega
          case rel =>
            refine ⟨i + 1, cs, by go_num, (by have := HKI.out; show ns - (i + 1) + (i + 1) = ns; omega), ⟨HRA.out.1.kinds fun j x hj h => ?_, HRA.out.2⟩, HRX.out, HRS.out, HB.out⟩
            by_cases h1 : j = i
            · subst h1
              rw [List.getElem?_eq_getElem HIL.out] at hj
              injection hj with hj
              subst hj
              exact h.kd_one HO.out
            · by_cases h2 : j < i
              · have h3 : j < i + 1 := by omega
                simpa [h2, h3] using h
              · have h3 : ¬ j < i + 1 := by omega
                simpa [h2, h3] using h
    · obtain rfl : i = ns := by have := hki.out; omega
      have hd : decide ((i : Int) < (i : Int)) = false := by simp
      have HRA : Hid (RowA (fun _ => 7) wr C (.slice a3 i c3) cs) := hra.out.1.kinds fun j x hj h => by
        have h1 := (List.getElem?_eq_some_iff.1 hj).1
        have h2 : j < i := by omega
        simpa [h2] using h
      have HCM := Lib.hid hra.out.2
      have HRX := Lib.hid hrx.out
      have HRS := Lib.hid hrs.out
      have HB := Lib.hid hb.out
      have HCL := Lib.hid hcl
      have HST1 := Lib.hid (scalar_tuple C C _ _ qs ss (al.map (·.2)) atE wr HRX.out HQ8.out HRS.out (by rw [← HNS.out]; exact hs60) HZZ.out HRUN.out)
      clear hra hrx hrs hb hcl
      go_wp2_with fail
      refine HST1.out.mono ?_
      rintro e w4 ⟨v4, got, rfl, hgot, hgm, hb4⟩
      have HB4 := Lib.hid (HB.out.trans (hb4.mono HB.out.size))
      have HX4 := Lib.hid (HRX.out.below hb4)
      have HAN := Lib.hid (answered_same _ C C v4 (.slice a3 i c3) (.slice a2 i c2) got cs ss w4 hgot (HRA.out.below hb4) (by rw [hgm, HCM.out]) (HRS.out.below hb4) (by rw [HCL.out, HNS.out]) (fun s hs => by
          obtain ⟨j, hj, rfl⟩ := List.mem_iff_getElem.1 hs
          obtain ⟨_, _, h⟩ := HRUN.out.at j hj (by rw [List.length_map, HLL.out]; exact hj)
          exact h.kind.2) (fun x hx => by
          have hm2 : x.2 ∈ al.map (·.2) := by rw [← HCM.out]; exact List.mem_map.2 ⟨x, hx, rfl⟩
          obtain ⟨j, hj, hje⟩ := List.mem_iff_getElem.1 hm2
          obtain ⟨_, _, h⟩ := HRUN.out.at j (by rw [List.length_map, HLL.out] at hj; exact hj) hj
          rw [hje] at h
          exact h.of.small HSM.out) (by rw [HCL.out]; exact hs60))
      clear hgot hgm hb4
      go_wp2_with fail
      refine HAN.out.mono ?_
      rintro e w5 ⟨rfl, hb5⟩
      have HB5 := Lib.hid (HB4.out.trans (hb5.mono HB4.out.size))
      have HX5 := Lib.hid (HX4.out.below hb5)
      clear hb5
      go_wp2_with fail
      refine (asked_any _).mono ?_
      rintro e w6 ⟨v6, rfl, hr6, hb6⟩
      have HB6 := Lib.hid (HB5.out.trans (hb6.mono HB5.out.size))
      have HX6 := Lib.hid (HX5.out.below hb6)
      have HR6 := Lib.hid (scalar_tuple C _ _ v6 qs _ _ _ w6 HX6.out HQ8.out hr6 (by simp) (fun s hs => by rw [List.mem_singleton] at hs; rw [hs]) (Runs.asked (qs.map (·.2))))
      clear hr6 hb6
      go_wp2_with fail
      refine HR6.out.mono ?_
      rintro e w7 ⟨v7, cs7, rfl, hr7, hm7, hb7⟩
      have HB7 := Lib.hid (HB6.out.trans (hb7.mono HB6.out.size))
      rw [List.length_map, ← HNQ.out] at hm7
      have HL7 := Lib.hid (length_one _ nq v7 cs7 w7 hr7 hm7)
      clear hr7 hm7 hb7
      go_wp2_with fail
      refine HL7.out.mono ?_
      rintro e w8 ⟨rfl, rfl⟩
      go_wp2_with fail
      go_ret
      exact ⟨rfl, HB7.out⟩
end Go.Proofs.YteibkaonofkcbaaGreat
