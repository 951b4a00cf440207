/- A number is made of its bytes. -/
import Derived.Test.YteibkaonofkcbaaGreatTupJoinE
set_option linter.unusedSimpArgs false
set_option linter.unusedVariables false
namespace Go.Proofs.YteibkaonofkcbaaGreat
open Go.RowKit
theorem OB.after {w w' : World} {B : Nat} {v : Value} {l : List Nat} (h : OB w B v l) (hb : Below w.heap.size w w') : OB w' B v l := h.below hb
theorem slice_mid (w : World) (g n c j i : Nat) (hji : j < i) (hic : i ≤ c) :
    (Instr.slice 30 (.slice (some ⟨g, 0, none⟩) n c) (some (.int .i64 (j : Int))) (some (.int .i64 (i : Int))) none).run Tryz.prog w = .ok (.slice (some ⟨g, j, none⟩) (i - j) (c - j)) w := by
  have h1 : ¬ c = j := by omega
  have h2 : j ≤ i := by omega
  simp [Instr.slice, run_underlying Tryz.underlying30, Instr.sliceBounds, Instr.sliceBound, asIntOf, hic, h1, h2, Tryz.sizeOf5, Addr.add_lit]
theorem wrap64_small (x : Int) (h0 : 0 ≤ x) (h1 : x < 18446744073709551616) : IntKind.u64.wrap x = x := wraps_u64 x h0 (by simpa using h1)
theorem or_step (t D x : Nat) (ht : t ≤ 7) (hD : D < 256 ^ t) (hx : x < 256) : bits .or .u64 (D : Int) (IntKind.u64.wrap ((x : Int) * 2 ^ (8 * t))) = ((D + x * 256 ^ t : Nat) : Int) := by
  have h : t = 0 ∨ t = 1 ∨ t = 2 ∨ t = 3 ∨ t = 4 ∨ t = 5 ∨ t = 6 ∨ t = 7 := by omega
  rcases h with rfl | rfl | rfl | rfl | rfl | rfl | rfl | rfl
  · obtain rfl : D = 0 := by simpa using hD
    have e : (x : Int) * 2 ^ (8 * 0) = (x : Int) := by simp
    rw [e, wrap64_small (x : Int) (by omega) (by omega), show ((0 : Nat) : Int) = 0 from rfl]
    have ec : bits .or .u64 (0 : Int) (x : Int) = bits .or .u64 (x : Int) 0 := by simp only [bits, BitVec.or_comm]
    have e1 := u64_or8 (y := (x : Int)) (x := 0) (by omega) (by omega) (by omega) (by omega) (by omega)
    rw [ec, e1]; simp
  · have e : (x : Int) * 2 ^ (8 * 1) = (x : Int) * 256 := by simp
    rw [e, wrap64_small _ (by omega) (by omega), u64_or8 (y := (D : Int)) (x := (x : Int) * 256) (by omega) (by simp at hD; omega) (by omega) (by omega) (by omega)]
    simp
  · have e : (x : Int) * 2 ^ (8 * 2) = (x : Int) * 65536 := by simp
    rw [e, wrap64_small _ (by omega) (by omega), u64_or16 (y := (D : Int)) (x := (x : Int) * 65536) (by omega) (by simp at hD; omega) (by omega) (by omega) (by omega)]
    simp
  · have e : (x : Int) * 2 ^ (8 * 3) = (x : Int) * 16777216 := by simp
    rw [e, wrap64_small _ (by omega) (by omega), u64_or24 (y := (D : Int)) (x := (x : Int) * 16777216) (by omega) (by simp at hD; omega) (by omega) (by omega) (by omega)]
    simp
  · have e : (x : Int) * 2 ^ (8 * 4) = (x : Int) * 4294967296 := by simp
    rw [e, wrap64_small _ (by omega) (by omega), u64_or32 (y := (D : Int)) (x := (x : Int) * 4294967296) (by omega) (by simp at hD; omega) (by omega) (by omega) (by omega)]
    simp
  · have e : (x : Int) * 2 ^ (8 * 5) = (x : Int) * 1099511627776 := by simp
    rw [e, wrap64_small _ (by omega) (by omega), u64_or40 (y := (D : Int)) (x := (x : Int) * 1099511627776) (by omega) (by simp at hD; omega) (by omega) (by omega) (by omega)]
    simp
  · have e : (x : Int) * 2 ^ (8 * 6) = (x : Int) * 281474976710656 := by simp
    rw [e, wrap64_small _ (by omega) (by omega), u64_or48 (y := (D : Int)) (x := (x : Int) * 281474976710656) (by omega) (by simp at hD; omega) (by omega) (by omega) (by omega)]
    simp
  · have e : (x : Int) * 2 ^ (8 * 7) = (x : Int) * 72057594037927936 := by simp
    rw [e, wrap64_small _ (by omega) (by omega), u64_or56 (y := (D : Int)) (x := (x : Int) * 72057594037927936) (by omega) (by simp at hD; omega) (by omega) (by omega) (by omega)]
    simp
def SetPost (l : List Nat) (w : World) (e : Ending) (w' : World) : Prop := ∃ v ws, e = .returned v ∧ OW w' w.heap.size v ws ∧ valW ws = natOf l ∧ TopNZ ws ∧ Below w.heap.size w w'
set_option maxRecDepth 20000 in
set_option maxHeartbeats 4000000 in
theorem set_bytes (B g n c : Nat) (l : List Nat) (w : World) (h : OB w B (.slice (some ⟨g, 0, none⟩) n c) l) (hn : n ≤ 1000) (hnl : n = l.length) :
    Calls Tryz.prog 79 #[.slice none 0 0, .slice (some ⟨g, 0, none⟩) n c] w (SetPost l w) := by
  obtain ⟨N, hN⟩ : ∃ N, N = (n + 7) / 8 := ⟨_, rfl⟩
  have hdiv : ((n : Int) + 8 - 1) / 8 = (N : Int) := by omega
  have hNn : N ≤ 1000 := by omega
  have H := Lib.hid h
  have HN := Lib.hid hN
  have HL := Lib.hid hnl
  have hcn : n ≤ c := by obtain ⟨_, _, hv, _, _, h1, _⟩ := h.form; injection hv with _ e2 e3; omega
  clear h hN hnl
  by_cases h0 : n = 0
  · subst h0
    obtain rfl : N = 0 := by have := HN.out; omega
    have hnil : l = [] := List.eq_nil_of_length_eq_zero HL.out.symm
    have HNIL := Lib.hid hnil
    clear hnil
    go_enter Tryz.func79, Tryz.ntmps79
    go_wp2_with fail
    refine (nat_make 0 (by omega) _).mono ?_
    rintro e w1 ⟨⟨v, rfl, how⟩, hb1⟩
    have HOW := Lib.hid how
    have HB := Lib.hid hb1
    clear how hb1
    go_wp2_with fail
    refine wp_loop_rounds 1 ?_
    rw [rounds_succ]
    go_wp2_with fail
    refine (nat_norm w.heap.size _ _ (by simp) _ HOW.out).mono ?_
    rintro e w4 ⟨v, l', rfl, how4, hv4, htop, rfl⟩
    have H4 := Lib.hid how4
    have HV4 := Lib.hid hv4
    clear how4 hv4
    go_wp2
    go_ret
    exact ⟨v, l', rfl, H4.out, by rw [HV4.out, HNIL.out]; rfl, htop, HB.out⟩
  · go_enter Tryz.func79, Tryz.ntmps79
    go_wp2_with fail
    refine (nat_make N (by omega) _).mono ?_
    rintro e w1 ⟨⟨v, rfl, how⟩, hb1⟩
    rcases how.form with ⟨rfl, hnil⟩ | ⟨gz, cz, hv, hgz, hgz2, _, _⟩
    · exfalso
      have := congrArg List.length hnil
      simp at this
      have := HN.out
      omega
    rw [List.length_replicate] at hv
    subst hv
    have HOW := Lib.hid how
    have hob := Lib.hid (H.out.below hb1)
    have hgg : ¬ g = gz := by
      have := H.out.1.lt g rfl
      omega
    have hbw := Lib.hid hb1
    clear how hb1
    go_wp2_with fail
    go_loopw [5, 6] (fun iv kv wr => ∃ (k i : Nat) (ws : List Nat), i + 8 * k = n ∧ iv = .int .i64 (i : Int) ∧ kv = .int .i64 (k : Int) ∧ Hid (OW wr w.heap.size (.slice (some ⟨gz, 0, none⟩) N cz) ws) ∧ Hid (ws.length = N) ∧ Hid (valW ws = natOf (l.drop i)) ∧ Hid (∀ j (hj : j < ws.length), k ≤ j → ws[j]'hj = 0) ∧ Hid (OB wr B (.slice (some ⟨g, 0, none⟩) n c) l) ∧ Below w.heap.size w wr)
      (fun iv _ _ => (intOf iv).toNat)
    case atStart => exact ⟨0, n, _, by omega, rfl, rfl, HOW.out, by simp [Hid], by unfold Hid; rw [valW_zeros, HL.out, List.drop_length]; rfl, fun j hj _ => List.eq_of_mem_replicate (List.getElem_mem hj), hob.out, hbw.out⟩
    case round =>
      obtain ⟨k, i, ws, hik, rfl, rfl, how, hwl, hval, hz, hobr, hb⟩ := hrel
      have hik2 : i ≤ n := by omega
      have HIK := Lib.hid hik
      clear hik
      by_cases h8 : 8 ≤ i
      · obtain ⟨j, rfl⟩ : ∃ j, i = j + 8 := ⟨i - 8, by omega⟩
        have hd : decide ((8 : Int) ≤ ((j + 8 : Nat) : Int)) = true := by rw [decide_eq_true_iff]; omega
        have hsub : ((j + 8 : Nat) : Int) - 8 = (j : Int) := by omega
        have hsl := fun W => slice_mid W g n c j (j + 8) (by omega) (by omega)
        have hkN : k < N := by have := HN.out; have := HIK.out; omega
        have hkw : k < ws.length := by rw [hwl.out]; exact hkN
        have h8l : ((l.drop j).take 8).length = 8 := by have := HL.out; simp; omega
        have hbe := Lib.hid (fun q => be_word g j 8 (c - j) ((l.drop j).take 8) h8l (fun x hx => hobr.out.2.2 x (List.mem_of_mem_drop (List.mem_of_mem_take hx))) (by omega) (by omega) (wr.drewN q) (fun i hi => by
          have hi' : j + i < l.length := by have := HL.out; omega
          have := hobr.out.cell (j + i) hi'
          simp only [World.cell?_drewN, List.getElem_take, List.getElem_drop]
          exact this))
        have hword : natOf ((l.drop j).take 8) < W64 := by
          have := natOf_lt ((l.drop j).take 8) (fun x hx => hobr.out.2.2 x (List.mem_of_mem_drop (List.mem_of_mem_take hx)))
          rw [h8l, ← W64_eq] at this
          exact this
        obtain ⟨X, hX⟩ : ∃ X, X = natOf ((l.drop j).take 8) := ⟨_, rfl⟩
        rw [← hX] at hbe hword
        have HX := Lib.hid hX
        have HW := Lib.hid hword
        have H8L := Lib.hid h8l
        clear hX hword h8l
        go_wp2_with fail
        refine (hbe.out 0).mono ?_
        rintro e w2 ⟨rfl, q, rfl⟩
        obtain ⟨W2, hW2⟩ : ∃ W2, W2 = (wr.drewN 0).drewN q := ⟨_, rfl⟩
        have how2 : OW W2 w.heap.size (.slice (some ⟨gz, 0, none⟩) N cz) ws := by rw [hW2]; exact how.out
        have hob2 : OB W2 B (.slice (some ⟨g, 0, none⟩) n c) l := by rw [hW2]; exact hobr.out
        have hb2 : Below w.heap.size w W2 := by rw [hW2]; exact below_dn (below_dn hb 0) q
        rw [← hW2]
        clear hW2 hbe hb how hobr
        have hcell := how2.cell k hkw
        have hfree := how2.free k
        have how3 := Lib.hid (how2.store k X HW.out)
        have hob3 := Lib.hid (OB.set hob2 rfl (p := ⟨gz, k, none⟩) hgg (.int .u64 (X : Int)))
        have hb3 := Lib.hid (hb2.setCell (p := ⟨gz, k, none⟩) hgz (.int .u64 (X : Int)))
        clear how2 hob2 hb2
        go_wp2
        go_roundw
        case rel =>
          refine ⟨k + 1, j, ws.set k X, by have := HIK.out; omega, rfl, by go_num, how3.out, by simpa [Hid] using hwl.out, ?_, ?_, hob3.out, hb3.out⟩
          · unfold Hid
            have hcut := natOf_cut l (j + 8) 8 (by omega) (by have := HL.out; omega)
            rw [show j + 8 - 8 = j by omega, ← HX.out] at hcut
            rw [valW_set ws k X hkw (hz.out k hkw (Nat.le_refl _)), hval.out, hcut, show l.length - (j + 8) = 8 * k by have := HL.out; have := HIK.out; omega, pow256_8, Nat.mul_comm X]
            omega
          · intro i hi hki
            rw [List.getElem_set_ne (by omega)]
            exact hz.out i (by simpa using hi) (by omega)
        case measure => simp [intOf]; omega
      · have hd : decide ((8 : Int) ≤ (i : Int)) = false := by simp; omega
        by_cases hi0 : i = 0
        · subst hi0
          have hd2 : decide ((0 : Int) < ((0 : Nat) : Int)) = false := by simp
          have HV : Hid (valW ws = natOf l) := by unfold Hid; rw [hval.out, List.drop_zero]
          have hlw : ws.length ≤ 100000 := by rw [hwl.out]; omega
          have HLW := Lib.hid hlw
          have HB := Lib.hid hb
          clear hz hval hlw hb hobr
          go_wp2_with fail
          refine (nat_norm w.heap.size _ ws HLW.out _ how.out).mono ?_
          rintro e w4 ⟨v, l', rfl, how4, hv4, htop, rfl⟩
          have H4 := Lib.hid how4
          have HV4 := Lib.hid hv4
          clear how4 hv4
          go_wp2
          go_ret
          exact ⟨v, l', rfl, H4.out, by rw [HV4.out, HV.out], htop, HB.out⟩
        · have hd2 : decide ((0 : Int) < (i : Int)) = true := by simp; omega
          have HB := Lib.hid hb
          clear hb
          go_wp2_with fail
          go_loopw [5, 7, 8] (fun iv dv sv wr' => ∃ (m D : Nat), m ≤ i ∧ iv = .int .i64 (m : Int) ∧ dv = .int .u64 (D : Int) ∧ sv = .int .u64 ((8 * (i - m) : Nat) : Int) ∧ Hid (D = natOf ((l.take i).drop m)) ∧ wr' = wr)
            (fun iv _ _ _ => (intOf iv).toNat)
          case atStart => exact ⟨i, 0, Nat.le_refl _, rfl, rfl, by simp, by simp [Hid, natOf], rfl⟩
          case round =>
            obtain ⟨m, D, hmi, rfl, rfl, rfl, hD, rfl⟩ := hrel
            by_cases hm0 : 0 < m
            · obtain ⟨j, rfl⟩ : ∃ j, m = j + 1 := ⟨m - 1, by omega⟩
              have hd3 : decide ((0 : Int) < ((j + 1 : Nat) : Int)) = true := by rw [decide_eq_true_iff]; omega
              have hsub : ((j + 1 : Nat) : Int) - 1 = (j : Int) := by omega
              have hjl : j < l.length := by have := HL.out; omega
              have hcell := hobr.out.cell j hjl
              have hjn : (j : Int) < (n : Int) := by omega
              obtain ⟨x, hx⟩ : ∃ x, x = l[j]'hjl := ⟨_, rfl⟩
              rw [← hx] at hcell
              have hx256 : x < 256 := by rw [hx]; exact hobr.out.2.2 _ (List.getElem_mem hjl)
              have hcut : natOf ((l.take i).drop j) = x * 256 ^ (i - (j + 1)) + natOf ((l.take i).drop (j + 1)) := by
                have hli : j < (l.take i).length := by have := HL.out; simp; omega
                rw [List.drop_eq_getElem_cons hli, natOf, hx]
                simp only [List.getElem_take]
                rw [show ((l.take i).drop (j + 1)).length = i - (j + 1) by have := HL.out; simp; omega]
              have hDlt : D < 256 ^ (i - (j + 1)) := by
                rw [hD.out]
                have h := natOf_lt ((l.take i).drop (j + 1)) (fun y hy => hobr.out.2.2 y (List.mem_of_mem_take (List.mem_of_mem_drop hy)))
                rwa [show ((l.take i).drop (j + 1)).length = i - (j + 1) by have := HL.out; simp; omega] at h
              have hor := or_step (i - (j + 1)) D x (by omega) hDlt hx256
              obtain ⟨E, hE⟩ : ∃ E, E = D + x * 256 ^ (i - (j + 1)) := ⟨_, rfl⟩
              rw [← hE] at hor
              have HE : Hid (E = natOf ((l.take i).drop j)) := by unfold Hid; rw [hE, hcut, hD.out]; omega
              have hsum : ((8 * (i - (j + 1)) : Nat) : Int) + 8 = ((8 * (i - j) : Nat) : Int) := by omega
              clear hx hcut hDlt hE hD
              go_wp2
              go_roundw
              case rel => exact ⟨j, E, by omega, rfl, rfl, by first | rfl | exact congrArg (Value.int .u64) (by omega), HE.out, by first | trivial | rfl⟩
              case measure => simp [intOf]
            · obtain rfl : m = 0 := by omega
              have hN1 : (N : Int) - 1 = (k : Int) := by have := HN.out; have := HIK.out; omega
              have hkw : k < ws.length := by rw [hwl.out]; have := HN.out; have := HIK.out; omega
              have hkN : (k : Int) < (N : Int) := by omega
              have hcell := how.out.cell k hkw
              have hfree := how.out.free k
              have hDlt : D < W64 := by
                have h := natOf_lt ((l.take i).drop 0) (fun y hy => hobr.out.2.2 y (List.mem_of_mem_take (List.mem_of_mem_drop hy)))
                rw [← hD.out, show ((l.take i).drop 0).length = i by have := HL.out; simp; omega] at h
                have := Nat.pow_le_pow_right (n := 256) (by omega) (show i ≤ 8 by omega)
                rw [W64_eq]; omega
              have how3 := Lib.hid (how.out.store k D hDlt)
              have hb3 := Lib.hid (HB.out.setCell (p := ⟨gz, k, none⟩) hgz (.int .u64 (D : Int)))
              have HV : Hid (valW (ws.set k D) = natOf l) := by
                unfold Hid
                have hcut := natOf_cut l i i (Nat.le_refl _) (by have := HL.out; omega)
                rw [Nat.sub_self, List.drop_zero] at hcut
                rw [valW_set ws k D hkw (hz.out k hkw (Nat.le_refl _)), hval.out, hcut, hD.out, List.drop_zero, show l.length - i = 8 * k by have := HL.out; have := HIK.out; omega, pow256_8, Nat.mul_comm (natOf (l.take i))]
                omega
              have hlw : (ws.set k D).length ≤ 100000 := by simp; rw [hwl.out]; omega
              have HLW := Lib.hid hlw
              clear hDlt how hz hval hlw hobr hD
              go_wp2_with fail
              refine (nat_norm w.heap.size _ (ws.set k D) HLW.out _ how3.out).mono ?_
              rintro e w4 ⟨v, l', rfl, how4, hv4, htop, rfl⟩
              have H4 := Lib.hid how4
              have HV4 := Lib.hid hv4
              clear how4 hv4
              go_wp2
              go_ret
              exact ⟨v, l', rfl, H4.out, by rw [HV4.out, HV.out], htop, hb3.out⟩
end Go.Proofs.YteibkaonofkcbaaGreat
