/- The law's walk: bytes of a list. -/
import Derived.Test.YtmpfffcdpecadaaGreatDoorBytesOf
import Derived.Test.YtmpfffcdpecadaaGreatDoorListOf
import Derived.Test.YtmpfffcdpecadaaGreatDoorSI64
namespace Go.Proofs.YtmpfffcdpecadaaGreatDoor
open Go.RowKit
attribute [local go_sem ↓] Go.wp_at_zero Go.wp_at_succ
theorem ListIn.len {W : World} {a : Option Addr} {len cap : Nat} (h : ListIn W a len cap) : len ≤ maxLen := by
  rcases h with ⟨_, h0, _⟩ | ⟨x, _, h1, h2, _⟩
  · rw [h0]; exact Nat.zero_le _
  · exact Nat.le_trans h1 h2
theorem bsl_none (w : World) : BSl w (.slice none 0 0) [] :=
  ⟨none, 0, rfl, Nat.le_refl _, Nat.zero_le _, by simp, fun _ => ⟨rfl, rfl⟩, fun p h => by simp at h⟩
/-- The number that the reference takes a value for. -/
def numX : Sx → Int
  | .int neg l => intOf2 neg l
  | _ => 0
def NumXPost (s : Sx) (w : World) (e : Ending) (w' : World) : Prop := ∃ u B neg l, e = .returned u ∧ SInt w' B u neg l ∧ l.length ≤ 40 ∧ intOf2 neg l = numX s ∧ Below w.heap.size w w'
theorem num_x (v : Value) (s : Sx) (w : World) (hv : XVal w 0 v s) : Calls Tryz.prog 6 #[v] w (NumXPost s w) := by
  have key : ∀ k neg a n c b tx l, v = pv k neg a n c b tx none 0 0 → BSl w (.slice a n c) l → l.length ≤ 40 → intOf2 neg l = numX s → Calls Tryz.prog 6 #[v] w (NumXPost s w) := by
    rintro k neg a n c b tx l rfl hb hl hn
    refine (num_any k neg a n c b tx none 0 0 l w hb (by omega)).mono ?_
    rintro e w' ⟨u, rfl, hsi, hbb⟩
    exact ⟨u, _, _, _, rfl, hsi, Nat.le_trans (strip_le l) hl, by rw [of_val3, hn], hbb⟩
  cases s with
  | none => exact key 0 false none 0 0 0 ⟨#[]⟩ [] hv (bsl_none w) (by simp) rfl
  | bool b => exact key 1 false none 0 0 _ ⟨#[]⟩ [] hv (bsl_none w) (by simp) rfl
  | float f => exact key 3 false none 0 0 _ ⟨#[]⟩ [] hv (bsl_none w) (by simp) rfl
  | str t => exact key 4 false none 0 0 0 t [] hv.1 (bsl_none w) (by simp) rfl
  | byt t => exact key 5 false none 0 0 0 t [] hv.1 (bsl_none w) (by simp) rfl
  | int neg l =>
    obtain ⟨⟨vs, hv, ho, _, _⟩, hl⟩ := hv
    obtain ⟨g, c, hvs, _⟩ := ho.form
    refine key 2 neg (some ⟨g, 0, Option.none⟩) l.length c 0 ⟨#[]⟩ l (by rw [hv, hvs]; rfl) ?_ hl rfl
    rw [← hvs]; exact ho.bsl
set_option maxRecDepth 100000 in
set_option maxHeartbeats 4000000 in
theorem bytes_law (a : Option Addr) (len cap : Nat) (w : World) (hl : ListIn w a len cap) :
    Calls Tryz.prog 3 #[.slice a len cap] w fun e w' => e = .returned (.bool true) ∧ Below w.heap.size w w' := by
  have hm := hl.len
  unfold maxLen at hm
  by_cases hbig : 2147483647 < len
  · have d1 : decide ((2147483647 : Int) < (len : Int)) = true := by simp; omega
    clear hl
    go_enter Tryz.func3, Tryz.ntmps3
    go_wp2
    go_ret
    exact ⟨rfl, Below.refl _ _⟩
  · have d1 : decide ((2147483647 : Int) < (len : Int)) = false := by simp; omega
    have HL := Lib.hid (list_of a len cap w hl)
    clear hl
    go_enter Tryz.func3, Tryz.ntmps3
    go_wp2_with fail
    refine HL.out.mono ?_
    rintro e w1 ⟨v, ps, rfl, hv, hps, hb⟩
    obtain ⟨n, hn⟩ : ∃ n, n = ps.length := ⟨_, rfl⟩
    obtain ⟨aa, cc, rfl⟩ := hv.form
    have HI := Lib.hid (impl_bytes w.heap.size _ ps w1 hv (by omega))
    have HV := Lib.hid hv
    have HB := Lib.hid hb
    have hn12 : n ≤ 12 := by omega
    rw [← hn]
    rw [← hn] at HI
    have HN := Lib.hid hn
    clear hv hb hps hn
    go_wp2_with fail
    refine HI.out.mono ?_
    rintro e w2 ⟨h0, hb2⟩
    have HB2 := Lib.hid (HB.out.trans (hb2.mono HB.out.size))
    have HV2 := Lib.hid (HV.out.below hb2)
    obtain ⟨tx, okb, rfl, HRES⟩ : ∃ tx okb, e = .returned (.tuple #[.string tx, .bool okb, .bool true]) ∧ Hid ((∃ acc, bX (ps.map (·.2)) = some acc ∧ tx = ⟨acc.toArray⟩ ∧ okb = true) ∨ (bX (ps.map (·.2)) = none ∧ tx = ⟨#[]⟩ ∧ okb = false)) := by
      rcases h0 with ⟨acc, ha, rfl⟩ | ⟨ha, rfl⟩
      · exact ⟨_, _, rfl, .inl ⟨acc, ha, rfl, rfl⟩⟩
      · exact ⟨_, _, rfl, .inr ⟨ha, rfl, rfl⟩⟩
    have HOW : Hid (OwnB 5 (w2.alloc (.cells #[] 5)) w2.heap.size (.slice (some ⟨w2.heap.size, 0, none⟩) 0 0) []) := World.ownsRow_lit (base := w2.heap.size) (e := 5) (size := 1) w2 #[] 0 (Nat.le_refl _) (by unfold maxLen; omega) rfl
    have HBA : Hid (Below w2.heap.size w2 (w2.alloc (.cells #[] 5))) := (Below.refl _ _).alloc (Nat.le_refl _) _
    clear hb2 h0
    go_wp2_with fail
    go_loopg [6, 7, 26] n (fun k f t i wr => ∃ (j : Nat) (acc : List UInt8), f = .bool true ∧ i = .int .i64 (j : Int) ∧ j ≤ n ∧ k ≤ n - j ∧ n - j ≤ k ∧ Hid ((ps.take j).map (fun p => byteX p.2) = acc.map some) ∧ Hid (OwnB 5 wr w2.heap.size t acc) ∧ Hid (Below w2.heap.size w2 wr))
    case atStart => exact ⟨0, [], rfl, rfl, Nat.zero_le _, by omega, by omega, rfl, HOW, HBA⟩
    case round =>
      obtain ⟨j, acc, rfl, rfl, hjn, hk1, hk2, hac, how, hbr⟩ := hrel
      have hrow := Lib.hid (HV2.out.below hbr.out)
      by_cases hj : j < n
      · have d2 : decide ((j : Int) < (n : Int)) = true := by simp; omega
        have hjp : j < ps.length := by rw [← HN.out]; exact hj
        have HXV := Lib.hid (hrow.out.2 _ (List.getElem_mem hjp))
        obtain ⟨g, cap, neg, ax, nx, cx, bx, tx0, hv, hg, he, c0, c1, c2, c3, c4, c5⟩ := hrow.out.at j hjp
        obtain ⟨s, hs⟩ : ∃ s, s = (ps[j]'hjp).2 := ⟨_, rfl⟩
        obtain ⟨kd, hkd⟩ : ∃ kd, kd = kx (ps[j]'hjp).2 := ⟨_, rfl⟩
        rw [← hkd] at c0
        injection hv with ha hc1 hc2
        subst ha
        subst hc2
        have HT := Lib.hid (fun (W : World) (h : Below wr.heap.size wr W) => num_x _ _ W (HXV.out.below h))
        rw [he, ← hs, hs, ← hkd, ← hs] at HT
        rw [← hs] at hkd
        have HMEM : Hid (s ∈ ps.map (·.2)) := List.mem_map.2 ⟨_, List.getElem_mem hjp, hs.symm⟩
        have HAC1 : Hid (∀ c, byteX s = some c → (ps.take (j + 1)).map (fun p => byteX p.2) = (acc ++ [c]).map some) := fun c hc => by
          rw [List.take_succ_eq_append_getElem hjp, List.map_append, hac.out, List.map_append, List.map_cons, List.map_nil, ← hs, hc]
          rfl
        have hacl : acc.length ≤ 12 := by
          have := congrArg List.length hac.out
          simp only [List.length_map, List.length_take] at this
          omega
        unfold pv at HT
        have HROW := Lib.hid hrow.out
        have HBR := Lib.hid hbr.out
        have HAL := Lib.hid ((Below.refl wr.heap.size wr).alloc (Nat.le_refl _) (.cells #[.int .i64 kd, .bool neg, .slice ax nx cx, .int .u64 bx, .string tx0, .slice none 0 0] 29))
        have hjn12 : j < 12 := by omega
        clear hrow hbr hs he hc1 HXV
        cases hq : byteX s with
        | none =>
          have hbn : bX (ps.map (·.2)) = none := bX_none HMEM.out hq
          obtain ⟨rfl, rfl⟩ : tx = ⟨#[]⟩ ∧ okb = false := by
            rcases HRES.out with ⟨a1, h1, _⟩ | ⟨_, h1, h2⟩
            · rw [hbn] at h1; simp at h1
            · exact ⟨h1, h2⟩
          clear hbn
          obtain ⟨m, hm2⟩ : ∃ m, m = numX s := ⟨_, rfl⟩
          have HNX := Lib.hid hm2.symm
          by_cases hk : kd = 2
          · have hor : m < 0 ∨ 255 < m := by
              cases s with
              | int ng2 l2 => rw [hm2]; exact byte_none hq
              | _ => rw [hkd] at hk; simp [kx] at hk
            subst hk
            clear hq hkd hm2
            by_cases hfit : -9223372036854775808 ≤ m ∧ m ≤ 9223372036854775807
            · have HFIT := Lib.hid hfit
              clear hfit
              by_cases hneg : m < 0
              · have d3 : decide (m < 0) = true := decide_eq_true hneg
                clear hor
                go_wp2_with fail
                refine (HT.out _ HAL.out).mono ?_
                rintro e w5 ⟨u5, B5, ng, l5, rfl, hsi, hl5, hn5, hb5⟩
                have hS := spec_int64 B5 u5 ng l5 w5 hsi (by omega)
                rw [hn5, HNX.out] at hS
                unfold S64Post at hS
                rw [if_pos HFIT.out, decide_eq_true HFIT.out] at hS
                have HS := Lib.hid hS
                have HK5 : Hid (Blk w5 wr.heap.size 29 #[.int .i64 2, .bool neg, .slice ax nx cx, .int .u64 bx, .string tx0, .slice none 0 0]) := (Blk.new wr _ _).below hb5 (by simp)
                have HAL5 := Lib.hid (HAL.out.trans (hb5.mono HAL.out.size))
                clear hS hsi hl5 hn5 hb5
                go_wp2_with fail
                refine HS.out.mono ?_
                rintro e w6 ⟨rfl, hb6⟩
                have HAL6 := Lib.hid (HAL5.out.trans (hb6.mono HAL5.out.size))
                have HBF := Lib.hid (HBR.out.trans (HAL6.out.mono HBR.out.size))
                have e0 : w6.cell? ⟨wr.heap.size, 0, none⟩ = some (.int .i64 2) := ((HK5.out.below hb6 HK5.out.lt).cell 0).trans rfl
                clear hb6
                go_wp2
                go_ret
                exact ⟨rfl, HB2.out.trans (HBF.out.mono HB2.out.size)⟩
              · have h255 : 255 < m := hor.resolve_left hneg
                have d3 : decide (m < 0) = false := decide_eq_false hneg
                have d4 : decide (255 < m) = true := decide_eq_true h255
                clear hor
                go_wp2_with fail
                refine (HT.out _ HAL.out).mono ?_
                rintro e w5 ⟨u5, B5, ng, l5, rfl, hsi, hl5, hn5, hb5⟩
                have hS := spec_int64 B5 u5 ng l5 w5 hsi (by omega)
                rw [hn5, HNX.out] at hS
                unfold S64Post at hS
                rw [if_pos HFIT.out, decide_eq_true HFIT.out] at hS
                have HS := Lib.hid hS
                have HK5 : Hid (Blk w5 wr.heap.size 29 #[.int .i64 2, .bool neg, .slice ax nx cx, .int .u64 bx, .string tx0, .slice none 0 0]) := (Blk.new wr _ _).below hb5 (by simp)
                have HAL5 := Lib.hid (HAL.out.trans (hb5.mono HAL.out.size))
                clear hS hsi hl5 hn5 hb5
                go_wp2_with fail
                refine HS.out.mono ?_
                rintro e w6 ⟨rfl, hb6⟩
                have HAL6 := Lib.hid (HAL5.out.trans (hb6.mono HAL5.out.size))
                have HBF := Lib.hid (HBR.out.trans (HAL6.out.mono HBR.out.size))
                have e0 : w6.cell? ⟨wr.heap.size, 0, none⟩ = some (.int .i64 2) := ((HK5.out.below hb6 HK5.out.lt).cell 0).trans rfl
                clear hb6
                go_wp2
                go_ret
                exact ⟨rfl, HB2.out.trans (HBF.out.mono HB2.out.size)⟩
            · have HFIT := Lib.hid hfit
              clear hfit hor
              go_wp2_with fail
              refine (HT.out _ HAL.out).mono ?_
              rintro e w5 ⟨u5, B5, ng, l5, rfl, hsi, hl5, hn5, hb5⟩
              have hS := spec_int64 B5 u5 ng l5 w5 hsi (by omega)
              rw [hn5, HNX.out] at hS
              unfold S64Post at hS
              rw [if_neg HFIT.out, decide_eq_false HFIT.out] at hS
              have HS := Lib.hid hS
              have HK5 : Hid (Blk w5 wr.heap.size 29 #[.int .i64 2, .bool neg, .slice ax nx cx, .int .u64 bx, .string tx0, .slice none 0 0]) := (Blk.new wr _ _).below hb5 (by simp)
              have HAL5 := Lib.hid (HAL.out.trans (hb5.mono HAL.out.size))
              clear hS hsi hl5 hn5 hb5
              go_wp2_with fail
              refine HS.out.mono ?_
              rintro e w6 ⟨rfl, hb6⟩
              have HAL6 := Lib.hid (HAL5.out.trans (hb6.mono HAL5.out.size))
              have HBF := Lib.hid (HBR.out.trans (HAL6.out.mono HBR.out.size))
              have e0 : w6.cell? ⟨wr.heap.size, 0, none⟩ = some (.int .i64 2) := ((HK5.out.below hb6 HK5.out.lt).cell 0).trans rfl
              clear hb6
              go_wp2
              go_ret
              exact ⟨rfl, HB2.out.trans (HBF.out.mono HB2.out.size)⟩
          · have dk : (kd == 2) = false := by simp [hk]
            have dk2 : (kd != 2) = true := by simp [hk]
            have hm0 : m = 0 := by
              rw [hm2]
              cases s with
              | int ng2 l2 => rw [hkd] at hk; simp [kx] at hk
              | _ => rfl
            subst hm0
            have HFIT : Hid (-9223372036854775808 ≤ (0 : Int) ∧ (0 : Int) ≤ 9223372036854775807) := ⟨by omega, by omega⟩
            clear hq hkd hm2 hk
            go_wp2_with fail
            refine (HT.out _ HAL.out).mono ?_
            rintro e w5 ⟨u5, B5, ng, l5, rfl, hsi, hl5, hn5, hb5⟩
            have hS := spec_int64 B5 u5 ng l5 w5 hsi (by omega)
            rw [hn5, HNX.out] at hS
            unfold S64Post at hS
            rw [if_pos HFIT.out, decide_eq_true HFIT.out] at hS
            have HS := Lib.hid hS
            have HK5 : Hid (Blk w5 wr.heap.size 29 #[.int .i64 kd, .bool neg, .slice ax nx cx, .int .u64 bx, .string tx0, .slice none 0 0]) := (Blk.new wr _ _).below hb5 (by simp)
            have HAL5 := Lib.hid (HAL.out.trans (hb5.mono HAL.out.size))
            clear hS hsi hl5 hn5 hb5
            go_wp2_with fail
            refine HS.out.mono ?_
            rintro e w6 ⟨rfl, hb6⟩
            have HAL6 := Lib.hid (HAL5.out.trans (hb6.mono HAL5.out.size))
            have HBF := Lib.hid (HBR.out.trans (HAL6.out.mono HBR.out.size))
            have e0 : w6.cell? ⟨wr.heap.size, 0, none⟩ = some (.int .i64 kd) := ((HK5.out.below hb6 HK5.out.lt).cell 0).trans rfl
            clear hb6
            go_wp2
            go_ret
            exact ⟨rfl, HB2.out.trans (HBF.out.mono HB2.out.size)⟩
        | some c =>
          have HAC2 := Lib.hid (HAC1.out c hq)
          obtain ⟨ng2, l2, rfl⟩ := byte_int hq
          have HNX : Hid (numX (.int ng2 l2) = (c.toNat : Int)) := byte_some hq
          obtain rfl : kd = 2 := hkd
          have hc := c.toNat_lt
          have HFIT : Hid (-9223372036854775808 ≤ (c.toNat : Int) ∧ (c.toNat : Int) ≤ 9223372036854775807) := ⟨by omega, by omega⟩
          have d3 : decide ((c.toNat : Int) < 0) = false := by simp
          have d4 : decide (255 < c.toNat) = false := by simp; omega
          have hw8 : IntKind.u8.wrap (c.toNat : Int) = (c.toNat : Int) := IntWalk.u8_in _ (by omega)
          clear hq
          go_wp2_with fail
          refine (HT.out _ HAL.out).mono ?_
          rintro e w5 ⟨u5, B5, ng, l5, rfl, hsi, hl5, hn5, hb5⟩
          have hS := spec_int64 B5 u5 ng l5 w5 hsi (by omega)
          rw [hn5, HNX.out] at hS
          unfold S64Post at hS
          rw [if_pos HFIT.out, decide_eq_true HFIT.out] at hS
          have HS := Lib.hid hS
          have HK5 : Hid (Blk w5 wr.heap.size 29 #[.int .i64 2, .bool neg, .slice ax nx cx, .int .u64 bx, .string tx0, .slice none 0 0]) := (Blk.new wr _ _).below hb5 (by simp)
          have HAL5 := Lib.hid (HAL.out.trans (hb5.mono HAL.out.size))
          clear hS hsi hl5 hn5 hb5
          go_wp2_with fail
          refine HS.out.mono ?_
          rintro e w6 ⟨rfl, hb6⟩
          have HAL6 := Lib.hid (HAL5.out.trans (hb6.mono HAL5.out.size))
          have HBF := Lib.hid (HBR.out.trans (HAL6.out.mono HBR.out.size))
          have e0 : w6.cell? ⟨wr.heap.size, 0, none⟩ = some (.int .i64 2) := ((HK5.out.below hb6 HK5.out.lt).cell 0).trans rfl
          clear hb6
          have HOW6 := Lib.hid (own_below how.out HAL6.out)
          obtain ⟨i0, hi0, hz0, hz1, hz2⟩ := info_parts Tryz.infoB
          have HI0 := Lib.hid hi0
          have HZ0 := Lib.hid hz0
          have HZ1 := Lib.hid hz1
          have HZ2 := Lib.hid hz2
          clear hi0 hz0 hz1 hz2
          go_wp2_with (at_builtin; refine wpList_append_one rfl _ _ _ rfl w6 w2.heap.size 5 i0 _ 1 Tryz.underlying26 HI0.out HZ0.out HZ1.out HZ2.out rfl u7 acc.length _ HOW6.out rfl (.int .u8 (c.toNat : Int)) rfl rfl rfl ?c1 ?c2 ?c3 ?_)
          case c1 => unfold maxLen; omega
          case c2 => omega
          case c3 => exact HBF.out.size
          intro v7 w7 hown7 hb7 hgrow7
          have HOW7 : Hid (OwnB 5 w7 w2.heap.size v7 (acc ++ [c])) := OwnB.more (by simpa using hown7)
          have HBF7 := Lib.hid (HBF.out.trans hb7)
          clear hown7 hb7 hgrow7
          go_wp2_with fail
          go_roundg (n - (j + 1))
          case measure => omega
          case rel => exact ⟨j + 1, acc ++ [c], rfl, by go_num, by omega, by omega, by omega, HAC2, HOW7, HBF7⟩
      · have d2 : decide ((j : Int) < (n : Int)) = false := by simp; omega
        have HBF := Lib.hid hbr.out
        obtain ⟨rfl, rfl⟩ : tx = ⟨acc.toArray⟩ ∧ okb = true := by
          have hb : bX (ps.map (·.2)) = some acc := bX_all (by
            have := hac.out
            rw [List.take_of_length_le (by rw [← HN.out]; omega)] at this
            rw [List.map_map]; exact this)
          rcases HRES.out with ⟨a1, h1, h2, h3⟩ | ⟨h1, _⟩
          · rw [hb] at h1
            injection h1 with h1
            subst h1
            exact ⟨h2, h3⟩
          · rw [hb] at h1; simp at h1
        have hcv := how.out.text (P := Tryz.prog) 26 9 Tryz.underlying26 (by kernel_rfl) Tryz.underlying9
        clear hrow hbr hac how
        go_wp2
        go_ret
        exact ⟨rfl, HB2.out.trans (HBF.out.mono HB2.out.size)⟩
end Go.Proofs.YtmpfffcdpecadaaGreatDoor
