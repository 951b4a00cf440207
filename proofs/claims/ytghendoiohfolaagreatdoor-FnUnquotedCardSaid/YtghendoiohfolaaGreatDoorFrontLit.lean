/- The law's literal: letters, quotes and a body without that quote, line ends, and backslashes at its end. -/
import Derived.Test.YtghendoiohfolaaGreatDoorFrontUnq
import Derived.Test.YtghendoiohfolaaGreatDoorValid
import Derived.Deep.DeepCutAuto
namespace Go.Proofs.YtghendoiohfolaaGreatDoor
set_option linter.unusedSimpArgs false
set_option linter.unusedVariables false
set_option linter.unnecessarySimpa false
open Go.RowKit
theorem own_cut {w : World} {B g n cap : Nat} {l : List UInt8} (h : OwnB 5 w B (.slice (some ⟨g, 0, none⟩) (n + 1) cap) l) (hl : l.length = n + 1) : OwnB 5 w B (.slice (some ⟨g, 0, none⟩) n cap) (l.take n) := by
  have hln : (l.take n).length = n := by rw [List.length_take]; omega
  refine ⟨by simp, ?_⟩
  rcases h.2 with ⟨h0, _⟩ | ⟨g', cap', cur, hv, hB, hh, h1, h2, h3, h4⟩
  · simp at h0
  · simp only [Value.slice.injEq, Option.some.injEq, Addr.mk.injEq] at hv
    obtain ⟨⟨rfl, -, -⟩, -, rfl⟩ := hv
    refine .inr ⟨g, cap, cur, by rw [hln], hB, hh, by rw [hln]; omega, h2, h3, ?_⟩
    rw [hl] at h4
    rw [hln, List.map_take, ← h4, List.take_take]
    congr 1
    omega
def FLitPost (w : World) (e : Ending) (w' : World) : Prop :=
  Below w.heap.size w w' ∧ ∃ (s : ByteArray) (a B : List UInt8) (wd : Nat) (q : UInt8), e = .returned (.string s) ∧ (a = [] ∨ a = [114] ∨ a = [98] ∨ a = [114, 98]) ∧ (wd = 1 ∨ wd = 3) ∧ (q = 34 ∨ q = 39) ∧ Body q B ∧ s.data.toList = litL a wd q B
def sliceLen : Value → Nat | .slice _ n _ => n | _ => 0
set_option maxRecDepth 20000 in
set_option maxHeartbeats 16000000 in
theorem flit_any (form : Int) (body : ByteArray) (w : World) (h0 : 0 ≤ form) (h1 : form ≤ 255) (hb : body.size ≤ 1000) :
    Calls Tryz.prog 4 #[.int .u8 form, .string body] w (FLitPost w) := by
  obtain ⟨i0, hi, hz0, hz1, hz2⟩ := info_parts Tryz.infoByte
  have HI := Lib.hid hi
  have HZ0 := Lib.hid hz0
  have HZ1 := Lib.hid hz1
  have HZ2 := Lib.hid hz2
  clear hi hz0 hz1 hz2
  have ha : ∃ av : ByteArray, Hid (av.data.toList = [] ∨ av.data.toList = [114] ∨ av.data.toList = [98] ∨ av.data.toList = [114, 98]) ∧ ((form % 4 = 0 ∧ (⟨#[]⟩ : ByteArray) = av) ∨ (form % 4 = 1 ∧ (⟨#[114]⟩ : ByteArray) = av) ∨ (form % 4 = 2 ∧ (⟨#[98]⟩ : ByteArray) = av) ∨ (form % 4 = 3 ∧ (⟨#[114, 98]⟩ : ByteArray) = av)) := by
    rcases (show form % 4 = 0 ∨ form % 4 = 1 ∨ form % 4 = 2 ∨ form % 4 = 3 by omega) with h | h | h | h
    · exact ⟨_, .inl rfl, .inl ⟨h, rfl⟩⟩
    · exact ⟨_, .inr (.inl rfl), .inr (.inl ⟨h, rfl⟩)⟩
    · exact ⟨_, .inr (.inr (.inl rfl)), .inr (.inr (.inl ⟨h, rfl⟩))⟩
    · exact ⟨_, .inr (.inr (.inr rfl)), .inr (.inr (.inr ⟨h, rfl⟩))⟩
  have hq : ∃ (qs : ByteArray) (q : UInt8) (wd : Nat), Hid (qs.data.toList = List.replicate wd q ∧ (wd = 1 ∨ wd = 3) ∧ (q = 34 ∨ q = 39)) ∧ ((form / 4 % 4 = 0 ∧ (⟨#[34]⟩ : ByteArray) = qs) ∨ (form / 4 % 4 = 1 ∧ (⟨#[39]⟩ : ByteArray) = qs) ∨ (form / 4 % 4 = 2 ∧ (⟨#[34, 34, 34]⟩ : ByteArray) = qs) ∨ (form / 4 % 4 = 3 ∧ (⟨#[39, 39, 39]⟩ : ByteArray) = qs)) := by
    rcases (show form / 4 % 4 = 0 ∨ form / 4 % 4 = 1 ∨ form / 4 % 4 = 2 ∨ form / 4 % 4 = 3 by omega) with h | h | h | h
    · exact ⟨_, 34, 1, ⟨rfl, .inl rfl, .inl rfl⟩, .inl ⟨h, rfl⟩⟩
    · exact ⟨_, 39, 1, ⟨rfl, .inl rfl, .inr rfl⟩, .inr (.inl ⟨h, rfl⟩)⟩
    · exact ⟨_, 34, 3, ⟨rfl, .inr rfl, .inl rfl⟩, .inr (.inr (.inl ⟨h, rfl⟩))⟩
    · exact ⟨_, 39, 3, ⟨rfl, .inr rfl, .inr rfl⟩, .inr (.inr (.inr ⟨h, rfl⟩))⟩
  obtain ⟨av, HA, ha⟩ := ha
  obtain ⟨qs, q, wd, HQ, hq⟩ := hq
  have hqz : 1 ≤ qs.size := by
    have h := congrArg List.length HQ.out.1
    rw [List.length_replicate] at h
    have e : qs.data.toList.length = qs.size := by simp
    rcases HQ.out.2.1 with e1 | e1 <;> omega
  have hqz0 : (0 : Int) < (qs.size : Int) := by omega
  have hqzn : 0 < qs.size := by omega
  have HQ0 : Hid (qs[0]'hqzn = q) := by
    unfold Hid
    have h1 : pk qs.data.toList 0 = qs[0] := by rw [pk_at (by simpa using hqzn)]; rfl
    rw [← h1, HQ.out.1]
    exact pk_rep (by rcases HQ.out.2.1 with e1 | e1 <;> omega)
  have havz : av.size ≤ 2 := by
    have e : av.data.toList.length = av.size := by simp
    rcases HA.out with h | h | h | h <;> (rw [h] at e; simp at e; omega)
  have hqsz : qs.size ≤ 3 := by
    have e : qs.data.toList.length = qs.size := by simp
    have h := congrArg List.length HQ.out.1
    rw [List.length_replicate] at h
    rcases HQ.out.2.1 with e1 | e1 <;> omega
  have HHA := Lib.hid ha
  have HHQ := Lib.hid hq
  clear ha hq
  go_enter Tryz.func4, Tryz.ntmps4
  go_upto_region 1 with fail
  go_cut [5] (fun v wx => v = .string av ∧ Hid (Below w.heap.size w wx))
  case first =>
    rcases HHA.out with ⟨m1, e1⟩ | ⟨m1, e1⟩ | ⟨m1, e1⟩ | ⟨m1, e1⟩
    all_goals
      go_wp2_with fail
      go_meet
      exact ⟨rfl, (Below.refl _ _).alloc (Nat.le_refl _) _⟩
  case rest =>
    obtain ⟨rfl, hb1⟩ := hcut
    go_upto_region 2 with fail
    go_cut [6] (fun v wx => v = .string qs ∧ Hid (Below w.heap.size w wx))
    case first =>
      rcases HHQ.out with ⟨m1, e1⟩ | ⟨m1, e1⟩ | ⟨m1, e1⟩ | ⟨m1, e1⟩
      all_goals
        go_wp2_with fail
        go_meet
        exact ⟨rfl, hb1.out.alloc hb1.out.size _⟩
    case rest =>
      obtain ⟨rfl, hb2⟩ := hcut
      obtain ⟨w2, rfl⟩ : ∃ w2 : World, w2 = wc := ⟨_, rfl⟩
      clear hb1 h0 h1
      go_wp2_with fail
      go_loopw [7, 8] (fun ov iv wr => ∃ (k : Nat) (acc : List UInt8), k ≤ body.size ∧ iv = .int .i64 k ∧ acc.length ≤ k ∧ Hid (acc = filt q (body.data.toList.take k)) ∧ Hid (OwnB 5 wr w.heap.size ov acc) ∧ Hid (Below w.heap.size w wr)) (fun _ iv _ => body.size - (intOf iv).toNat)
      case atStart => exact ⟨0, [], Nat.zero_le _, rfl, by simp, rfl, OwnB.nil _ _, hb2⟩
      case round =>
        obtain ⟨k, acc, hk, rfl, hal, hacc, how, hbe⟩ := hrel
        obtain ⟨wo, rfl⟩ : ∃ wo : World, wo = wr := ⟨_, rfl⟩
        have hzo := hbe.out.size
        by_cases hlt : k < body.size
        · have hk1 : (k : Int) < (body.size : Int) := by omega
          have hk0 : (0 : Int) ≤ (k : Int) := by omega
          have hts := take_snoc body k hlt
          have hsn := filt_snoc q (body.data.toList.take k) body[k]
          rw [← hts] at hsn
          have HSN := Lib.hid hsn
          clear hts hsn
          have q0 : ((qs[0]'hqzn).toNat : Int) = (q.toNat : Int) := by rw [HQ0.out]
          by_cases hc : body[k] = q ∨ body[k] = 10
          · have hn : Hid (acc = filt q (body.data.toList.take (k + 1))) := by
              unfold Hid
              rw [HSN.out, if_pos hc, List.append_nil]
              exact hacc.out
            have hd : (((body[k]).toNat : Int) != (q.toNat : Int)) = false ∨ ((((body[k]).toNat : Int) != (q.toNat : Int)) = true ∧ (((body[k]).toNat : Int) != 10) = false) := by
              by_cases h1 : body[k] = q
              · exact .inl (by rw [h1]; simp)
              · refine .inr ⟨?_, ?_⟩
                · rw [bne_iff_ne]; exact fun e => h1 (UInt8.toNat_inj.1 (Int.ofNat_inj.1 e))
                · rcases hc with h | h
                  · exact absurd h h1
                  · rw [h]; rfl
            clear hc
            rcases hd with hd | ⟨hd, hd2⟩
            all_goals
              go_wp2_with fail
              go_quiet (fail)
              go_wp2
              go_roundw
              case rel => exact ⟨k + 1, acc, by omega, by go_num, by omega, hn, how, below_dn hbe.out _⟩
              case measure => simp [intOf]; omega
          · simp only [not_or] at hc
            obtain ⟨hc1, hc2⟩ := hc
            have hn : Hid (acc ++ [body[k]] = filt q (body.data.toList.take (k + 1))) := by
              unfold Hid
              rw [HSN.out, if_neg (by simp [hc1, hc2]), hacc.out]
            have hd1 : (((body[k]).toNat : Int) != (q.toNat : Int)) = true := by rw [bne_iff_ne]; exact fun e => hc1 (UInt8.toNat_inj.1 (Int.ofNat_inj.1 e))
            have hd2 : (((body[k]).toNat : Int) != 10) = true := by rw [bne_iff_ne]; exact fun e => hc2 (UInt8.toNat_inj.1 (Int.ofNat_inj.1 e))
            clear hc1 hc2
            go_wp2_with fail
            go_quiet (fail)
            obtain ⟨w4, hw4⟩ : ∃ w4, w4 = wo.drewN nq := ⟨_, rfl⟩
            have OW : Hid (w4.ownsRow w.heap.size 5 1 u7 acc.length (acc.map fun c => Value.int .u8 (c.toNat : Int))) := by rw [hw4]; exact how.out
            have HBE4 : Hid (Below w.heap.size w w4) := by rw [hw4]; exact below_dn hbe.out _
            rw [← hw4]
            clear hw4
            have hz4 := HBE4.out.size
            go_wp2_with (at_builtin; refine wpList_append_one rfl (.tmp 38) (.tmp 42) 24 rfl w4 w.heap.size 5 i0 _ 1 Tryz.underlying24 HI.out HZ0.out HZ1.out HZ2.out rfl _ acc.length _ OW.out rfl (.int .u8 ((body[k]).toNat : Int)) rfl rfl rfl (by unfold maxLen; omega) (by omega) hz4 ?_; intro v2 w5 hown2 hb2 _; have HOWN2 := Lib.hid (OwnB.more hown2); have HBE2 := Lib.hid (HBE4.out.trans hb2); clear hown2 hb2)
            go_roundw
            case rel => exact ⟨k + 1, acc ++ [body[k]], by omega, by go_num, by simp; omega, hn, HOWN2, HBE2⟩
            case measure => simp [intOf]; omega
        · have hfin : Hid (acc = filt q body.data.toList) := by
            have h := hacc.out
            rw [take_all body k (by omega)] at h
            exact h
          have hal2 : acc.length ≤ 1000 := by omega
          clear hacc hal
          have hnot := filt_no q body.data.toList
          rw [← hfin.out] at hnot
          have HNOT := Lib.hid hnot
          have HLENU : Hid (sliceLen u7 = acc.length) := by
            rcases how.out.2 with ⟨h1, h2⟩ | ⟨g, cap, cur, h1, _⟩
            · unfold Hid; rw [h1, h2]; rfl
            · unfold Hid; rw [h1]; rfl
          have HOW0 : Hid (OwnB 5 wo w.heap.size u7 (acc.take acc.length)) := by rw [List.take_length]; exact how.out
          clear hnot
          go_wp2_with fail
          go_loop [7] (fun v => ∃ n : Nat, n ≤ acc.length ∧ Hid (OwnB 5 wo w.heap.size v (acc.take n)) ∧ Hid (sliceLen v = n)) (fun v => sliceLen v)
          case atStart => exact ⟨acc.length, Nat.le_refl _, HOW0, HLENU⟩
          case round =>
            obtain ⟨n, hn, hov, hsl⟩ := hrel
            have fin : ∀ T : ByteArray, T = ⟨(acc.take n).toArray⟩ → (n = 0 ∨ pk acc (n - 1) ≠ 92) → FLitPost w (.returned (.string (((av ++ qs) ++ T) ++ qs))) wo := by
              intro T hT hl
              refine ⟨hbe.out, _, av.data.toList, acc.take n, wd, q, rfl, HA.out, HQ.out.2.1, HQ.out.2.2, body_of HNOT.out.1 HNOT.out.2 hal2 hn hl, ?_⟩
              unfold litL
              rw [hT, ← HQ.out.1]
              simp
            have FIN := Lib.hid fin
            have hconv := hov.out.text 24 9 Tryz.underlying24 Tryz.underlying5 Tryz.underlying9
            obtain ⟨T, hT⟩ : ∃ T : ByteArray, T = ⟨(acc.take n).toArray⟩ := ⟨_, rfl⟩
            rw [← hT] at hconv
            have HT := Lib.hid hT
            have HNL : Hid ((acc.take n).length = n) := by unfold Hid; rw [List.length_take]; omega
            have htz : T.size ≤ 1000 := by rw [hT]; show (acc.take n).toArray.size ≤ 1000; rw [List.size_toArray, List.length_take]; omega
            clear fin hT hlt
            rcases (show n = 0 ∨ ∃ m, n = m + 1 by cases n with | zero => exact .inl rfl | succ m => exact .inr ⟨m, rfl⟩) with hn0 | ⟨m, hnm⟩
            · have HN0 := Lib.hid hn0
              obtain ⟨x, c, hv⟩ : ∃ x c, u7 = .slice x 0 c := by
                rcases hov.out.2 with ⟨h1, h2⟩ | ⟨g, cap, cur, h1, _⟩
                · exact ⟨_, _, h1⟩
                · refine ⟨some ⟨g, 0, none⟩, cap, ?_⟩
                  rw [h1, HNL.out, hn0]
              subst hv
              clear hn0
              go_wp2
              go_ret
              exact FIN.out T HT.out (.inl HN0.out)
            · obtain ⟨g, cap, cur, hv, hcap, hmx⟩ : ∃ g cap, ∃ cur : Array Value, u7 = .slice (some ⟨g, 0, none⟩) n cap ∧ n ≤ cap ∧ cap ≤ maxLen := by
                rcases hov.out.2 with ⟨_, h2⟩ | ⟨g, cap, cur, h1, _, _, h4, h5, _⟩
                · rw [HNL.out] at h2; omega
                · rw [HNL.out] at h1 h4
                  exact ⟨g, cap, cur, h1, h4, h5⟩
              subst hv
              unfold maxLen at hmx
              have hml : m < acc.length := by omega
              have hcell : wo.cell? ⟨g, m, none⟩ = some (.int .u8 ((pk acc m).toNat : Int)) := by
                have := World.ownsRow.cells hov.out (g := g) rfl m (.int .u8 ((pk acc m).toNat : Int)) (by
                  rw [List.getElem?_map, List.getElem?_take_of_lt (by omega), List.getElem?_eq_getElem hml, pk_at hml]
                  rfl)
                rw [Addr.add_lit, Nat.zero_add] at this
                exact this
              have hnm1 : (n : Int) - 1 = (m : Int) := by omega
              have hn1 : (0 : Int) < (n : Int) := by omega
              have hn1n : 0 < n := by omega
              have hmn : (m : Int) < (n : Int) := by omega
              have hmn2 : m < n := by omega
              have hmc : (m : Int) ≤ (cap : Int) := by omega
              have hm0 : (0 : Int) ≤ (m : Int) := by omega
              have HNM := Lib.hid hnm
              obtain ⟨z, hz⟩ : ∃ z, z = pk acc m := ⟨_, rfl⟩
              rw [← hz] at hcell
              have HZZ := Lib.hid hz
              clear hz hnm
              by_cases h92 : z = 92
              · have e92 : ((z.toNat : Int) == 92) = true := by rw [h92]; rfl
                have HNX : Hid (OwnB 5 wo w.heap.size (.slice (some ⟨g, 0, none⟩) m cap) (acc.take m)) := by
                  have h := hov.out
                  rw [HNM.out] at h
                  have h2 := own_cut h (by rw [List.length_take]; omega)
                  rw [List.take_take, Nat.min_eq_left (by omega)] at h2
                  exact h2
                clear h92
                go_wp2
                go_round
                case rel => exact ⟨m, by omega, HNX, rfl⟩
                case measure => simp [sliceLen]; omega
              · have e92 : ((z.toNat : Int) == 92) = false := beq_lit z 92 (by omega) (fun e => h92 (UInt8.toNat_inj.1 e))
                have HL : Hid (n = 0 ∨ pk acc (n - 1) ≠ 92) := .inr (by rw [show n - 1 = m by omega, ← HZZ.out]; exact h92)
                clear h92
                go_wp2
                go_ret
                exact FIN.out T HT.out HL.out
end Go.Proofs.YtghendoiohfolaaGreatDoor
