/- The walk of the reference's literal of bytes. -/
import Derived.Test.YtkddmiamdpbgiaaDoorSpecSteps
import Derived.Deep.DeepMust
namespace Go.Proofs.YtkddmiamdpbgiaaDoor
open Go.RowKit
/-- append(out, text...). -/
theorem wpList_qo_str {w0 w : World} {v : Value} {xs : List Int} {ops : Array Oper} {rest : List Oper} {o : Oper} {a : Act} {Q : Exit → Act → World → Prop} (hgd : o.guard = none) (s x : Operand)
    (ho : o.op = .call { callee := .builtin .append, args := #[s, x], argTypes := #[33, 9] })
    (t : ByteArray) (hx : a.eval x = .string t) (hs : a.eval s = v) (hq : QO w0 v xs w) (hlen : xs.length + t.size ≤ 140737488355328)
    (h : ∀ v' w', QO w0 v' (xs ++ ints t) w' → wpList Tryd.prog ops Q rest (a.put o.dst v') w') : wpList Tryd.prog ops Q (o :: rest) a w := by
  have hsz := hq.2.size
  obtain ⟨i0, hi, hz0, hz1, hz2⟩ := info_parts Tryd.infoByte
  refine Lib.wpList_append_own_string _ hgd s x 33 9 ho w0.heap.size 5 i0 Tryd.underlying33 Tryd.underlying9 hi hz0 hz1 hz2 v _ _ hs hq.1 t hx (by unfold maxLen; omega) (by omega) hsz ?_
  intro v' w' h1 hg _
  have hyl : t.size = (ints t).length := by simp [ints]
  have hy : Lib.strCells t = Lib.intCells (ints t) := by simp [Lib.strCells, Lib.intCells, ints]
  rw [hy, hyl] at h1
  exact h v' w' (hq.more h1 hg)
theorem qo_text {w0 w : World} {v : Value} {xs : List Int} (h : QO w0 v xs w) (h0 : 0 < xs.length) : (convert 33 9 v).run Tryd.prog w = .ok (.string (strOfNums xs)) w := by
  rcases h.1.2 with ⟨rfl, h1⟩ | ⟨g, cap, cur, rfl, hrest⟩
  · omega
  · refine run_convert_bytes_arg w 33 5 Tryd.underlying33 Tryd.underlying5 g 0 _ cap xs rfl (fun i hi => ?_) 9 Tryd.underlying9
    have := h.1.cells (g := g) rfl i (.int .u8 (xs.getD i 0)) (by simp [Lib.intCells, List.getD, List.getElem?_eq_getElem hi])
    by_cases hi0 : i = 0 <;> simpa [Addr.add, hi0] using this
theorem one_text (w : World) (c : UInt8) : (convert 33 9 (.slice (some ⟨w.heap.size, 0, none⟩) 1 1)).run Tryd.prog (w.alloc (.cells #[.int .u8 (c.toNat : Int)] 5)) = .ok (.string ⟨#[c]⟩) (w.alloc (.cells #[.int .u8 (c.toNat : Int)] 5)) := by
  have h := qo_text (qo_lit w #[.int .u8 (c.toNat : Int)] [(c.toNat : Int)] 1 rfl rfl (by omega)) (by simp)
  rw [h]
  simp [strOfNums]
theorem own_base5 {w : World} {B C : Nat} {e : TypeId} {size : Nat} {v : Value} {n : Nat} {xs : List Value} (h : w.ownsRow B e size v n xs) (hC : C ≤ B) : w.ownsRow C e size v n xs := by
  refine ⟨h.1, ?_⟩
  rcases h.2 with h0 | ⟨g, cap, cur, hv, hb, hrest⟩
  · exact .inl h0
  · exact .inr ⟨g, cap, cur, hv, Nat.le_trans hC hb, hrest⟩
/-- append(out, c, d). -/
theorem wpList_qo_two {w0 w : World} {v : Value} {xs : List Int} {ops : Array Oper} {rest : List Oper} {o : Oper} {a : Act} {Q : Exit → Act → World → Prop} {W : World} (hgd : o.guard = none) (s x : Operand)
    (ho : o.op = .call { callee := .builtin .append, args := #[s, x], argTypes := #[33, 33] })
    (c d : Int) (hx : a.eval x = .slice (some ⟨w.heap.size, 0, none⟩) 2 2) (hW : W = w.alloc (.cells #[.int .u8 c, .int .u8 d] 5)) (hs : a.eval s = v) (hq : QO w0 v xs w) (hlen : xs.length + 2 ≤ 140737488355328)
    (h : ∀ v' w', QO w0 v' (xs ++ [c, d]) w' → wpList Tryd.prog ops Q rest (a.put o.dst v') w') : wpList Tryd.prog ops Q (o :: rest) a W :=
  wpList_qo_news hgd s x ho [c, d] 2 rfl #[.int .u8 c, .int .u8 d] rfl hx hW hs hq hlen h
theorem qo_two (w : World) : QO w (.slice (some ⟨w.heap.size + 1, 0, none⟩) 2 2) [98, 34] ((w.alloc (.cells #[.int .u8 34] 5)).alloc (.cells #[.int .u8 98, .int .u8 34] 5)) := by
  have h := qo_lit (w.alloc (.cells #[.int .u8 34] 5)) #[.int .u8 98, .int .u8 34] [98, 34] 2 rfl rfl (by omega)
  have e : (w.alloc (.cells #[.int .u8 34] 5)).heap.size = w.heap.size + 1 := by simp
  rw [e] at h
  obtain ⟨h1, h2⟩ := h
  rw [e] at h1 h2
  exact ⟨own_base5 h1 (by omega), ((Below.refl _ w).alloc (Nat.le_refl _) _).trans (h2.mono (by omega))⟩
/-- append(out, 92, 120, c, d) in a region that draws its order. -/
theorem step_qo_four {w0 w W : World} {v : Value} {xs : List Int} {ops : Array Oper} {o : Oper} {a : Act} {K : Act → World → Prop} {Q : Exit → Act → World → Prop} {E : Prop} (hgd : o.guard = none) (s x : Operand)
    (ho : o.op = .call { callee := .builtin .append, args := #[s, x], argTypes := #[33, 33] })
    (c d : Int) (hW : W = (w.alloc (.cells #[.int .u8 92, .int .u8 120, .int .u8 c, .int .u8 d] 5)).drew) (hx : a.eval x = .slice (some ⟨w.heap.size, 0, none⟩) 4 4) (hs : a.eval s = v) (hq : QO w0 v xs w) (hlen : xs.length + 4 ≤ 140737488355328)
    (h : ∀ v' w', QO w0 v' (xs ++ [92, 120, c, d]) w' → K (a.put o.dst v') w') :
    if Region.wanted o (yielded ops a.tmps) = true then Oper.wp Tryd.prog o a W K Q else E := by
  have hw : Region.wanted o (yielded ops a.tmps) = true := by simp [Region.wanted, hgd]
  rw [if_pos hw]
  subst hW
  have hsz := hq.2.size
  have hq' : QO w0 v xs (w.alloc (.cells #[.int .u8 92, .int .u8 120, .int .u8 c, .int .u8 d] 5)).drew := ⟨(hq.1.alloc _).drew, below_dn (hq.2.alloc hsz _) 1⟩
  obtain ⟨i0, hi, hz0, hz1, hz2⟩ := info_parts Tryd.infoByte
  refine wp_append_own _ s x 33 ho w0.heap.size 5 i0 _ 1 1 Tryd.underlying33 hi hz0 hz1 hz2 rfl (by decide) v _ _ hs hq'.1 ⟨w.heap.size, 0, none⟩ 4 4 (Lib.intCells [92, 120, c, d]) hx rfl ?_ ?_ (by unfold maxLen; omega) (by omega) (by simp; omega) ?_
  · intro j u hj
    have e : (⟨w.heap.size, 0, none⟩ : Addr).add j = ⟨w.heap.size, j, none⟩ := by
      unfold Addr.add
      split <;> simp_all
    rw [e, (Blk.drew (Blk.new w 5 _)).cell j, ← Array.getElem?_toList]
    exact hj
  · intro u hu
    simp only [Lib.intCells, List.mem_map] at hu
    obtain ⟨x, _, rfl⟩ := hu
    rfl
  · intro v' w' h1 hg _
    exact h v' w' (hq'.more (ys := [92, 120, c, d]) h1 hg)
theorem wrap_u8_small (x : Int) (h0 : 0 ≤ x) (h1 : x < 256) : IntKind.u8.wrap x = x := by
  simp [IntKind.wrap, IntKind.bits, IntKind.signed]
  omega
def QuotedPost (s : ByteArray) (w : World) (e : Ending) (w' : World) : Prop := e = .returned (.string (strOfNums (98 :: Lib.quoteZ T s))) ∧ Below w.heap.size w w'
set_option maxRecDepth 20000 in
set_option maxHeartbeats 8000000 in
theorem spec_quoted (s : ByteArray) (hs : s.size ≤ 2147483647) (w : World) (hT : PTabs w) :
    Calls Tryd.prog 14 #[.string s, .bool true] w (QuotedPost s w) := by
  have HT := Lib.hid hT
  clear hT
  have hq0 := qo_two w
  have hone := fun (w : World) (c : UInt8) => one_text w c
  go_enter Tryd.func14, Tryd.ntmps14
  go_wp2_with fail
  have Hq0 := Lib.hid hq0
  clear hq0
  go_loopw [5, 6] (fun vb vi wr => ∃ (k : Nat) (acc : List Int) (f : Nat), vi = .int .i64 k ∧ k ≤ s.size ∧ s.size - k ≤ f ∧ Hid (QO w vb ([98, 34] ++ acc) wr) ∧ Hid (acc ++ Lib.quoteFrom T f (s.extract k s.size) = Lib.quoteFrom T s.size s) ∧ acc.length + 10 * (s.size - k) ≤ 10 * s.size)
    (fun _ vi _ => s.size - (intOf vi).toNat)
  case atStart => exact ⟨0, [], s.size, rfl, Nat.zero_le _, Nat.le_refl _, by simpa [Hid] using Hq0.out, by simp [Hid, ext_zero], by simp⟩
  case round =>
    obtain ⟨k, acc, f, rfl, hks, hf, hqr, hqf, hl⟩ := hrel
    by_cases hk : k < s.size
    · obtain ⟨rest, hrest⟩ : ∃ r, r = s.extract k s.size := ⟨_, rfl⟩
      have hrz : rest.size = s.size - k := by rw [hrest]; simp
      have h0 : 0 < rest.size := by omega
      have hg0 : rest[0]'h0 = s[k]'hk := by subst hrest; exact rest_get s k hk h0
      obtain ⟨R, hR⟩ : ∃ R, R = (Utf8.decode rest 0).1 := ⟨_, rfl⟩
      obtain ⟨K, hK⟩ : ∃ K, K = (Utf8.decode rest 0).2 := ⟨_, rfl⟩
      have hK1 : 1 ≤ K := by rw [hK]; exact Lib.width_pos _ _
      have hK2 : k + K ≤ s.size := by have := Lib.width_le _ h0; omega
      have hR2 : R ≤ 2147483647 := by rw [hR]; exact decode_le _ _
      have HTr := Lib.hid (ptabs_below HT.out (hqr.out.2.mono (Nat.le_refl _)))
      have HA : Hid ((acc ++ Lib.quoteStep T rest) ++ Lib.quoteFrom T (f - 1) (s.extract (k + K) s.size) = Lib.quoteFrom T s.size s) := by
        have e := hqf.out
        rw [← hrest, Lib.quoteFrom_step T f rest h0 (by omega), ← List.append_assoc, hrest, ext_ext s k, ← hrest, ← hK] at e
        exact e
      have hln : (acc ++ Lib.quoteStep T rest).length + 10 * (s.size - (k + K)) ≤ 10 * s.size := by
        have := Lib.quoteStep_length_le T rest
        simp only [List.length_append]; omega
      have hlacc : acc.length ≤ 10 * s.size := by omega
      have HLN := Lib.hid hln
      have HL := Lib.hid hl
      have HRE := Lib.hid hrest
      have HG := Lib.hid hg0
      have HK := Lib.hid hK
      have HR := Lib.hid hR
      have HRZ := Lib.hid hrz
      clear hln hl hrz hR hK hqf
      have hdk : decide ((k : Int) < (s.size : Int)) = true := by simp; omega
      have hk0 : (k : Int) ≤ (s.size : Int) := by omega
      have hnext : (k : Int) + (K : Int) = ((k + K : Nat) : Int) := by omega
      have HN := Lib.hid hnext
      clear hnext hrest
      obtain ⟨c, hc⟩ : ∃ c, c = s[k]'hk := ⟨_, rfl⟩
      have HC := Lib.hid hc
      go_wp2_with fail
      rw [← HRE.out]
      refine (decode_rest rest _ HTr.out.2 h0).mono ?_
      rw [← HR.out, ← HK.out]
      rintro e w1 ⟨rfl, hbl⟩
      have hq := Lib.hid (hqr.out.below hbl)
      have HTr1 := Lib.hid (ptabs_below HTr.out hbl)
      clear hbl hqr HTr hg0 hc
      obtain ⟨W2, hW2⟩ : ∃ W2, W2 = w1.alloc (.cells #[.int .u8 ((s[k]'hk).toNat : Int)] 5) := ⟨_, rfl⟩
      have hq2 := Lib.hid (show QO w u5 ([98, 34] ++ acc) W2 by rw [hW2]; exact hq.out.below ((Below.refl _ w1).alloc (Nat.le_refl _) _))
      have HTr2 := Lib.hid (show PTabs W2 by rw [hW2]; exact ptabs_below HTr1.out ((Below.refl _ w1).alloc (Nat.le_refl _) _))
      go_wp2_with fail
      rw [← hW2]
      clear hW2 hq HTr1 hone
      refine (place_nine (s[k]'hk) W2).mono ?_
      rintro e w3 ⟨r, hr, rfl, rfl⟩
      rcases hr with ⟨j, hj, hjc, rfl⟩ | ⟨hnot, rfl⟩
      · have hst := step_nine rest h0 j hj (by rw [HG.out]; exact hjc)
        have HST := Lib.hid hst.1
        have hK1' : K = 1 := by rw [HK.out]; exact hst.2
        subst hK1'
        have hdj : decide ((0 : Int) ≤ (j : Int)) = true := by simp
        have hj9 : (j : Int) < 9 := by omega
        have HJ := Lib.hid hjc
        clear hst hjc
        have hq := hq2.out
        go_wp2_with (at_builtin; refine wpList_qo_two rfl _ _ rfl _ _ rfl rfl rfl (by assumption) (by simp only [List.length_append, List.length_cons, List.length_nil]; omega) ?_; intro _ _ hq)
        go_roundw
        case rel =>
          refine ⟨k + 1, acc ++ Lib.quoteStep T rest, f - 1, by go_num, by omega, by omega, ?_, HA.out, HLN.out⟩
          rw [HST.out]
          simpa [Hid, List.append_assoc, letters] using hq
        case measure => simp [intOf]; omega
      · by_cases h32 : (s[k]'hk).toNat < 32
        · have hd32 : decide (((s[k]'hk).toNat : Int) < 32) = true := by simp; omega
          have hst := step_hex rest h0 (by rw [HG.out]; exact hnot) (by rw [HG.out]; omega)
          have HST := Lib.hid hst.1
          have hK1' : K = 1 := by rw [HK.out]; exact hst.2
          subst hK1'
          clear hst hnot
          go_wp2_with fail
          have hx255 := UInt8.toNat_lt (s[k]'hk)
          obtain ⟨p, hp⟩ : ∃ p, p = (s[k]'hk).toNat / 16 := ⟨_, rfl⟩
          obtain ⟨q, hqm⟩ : ∃ q, q = (s[k]'hk).toNat % 16 := ⟨_, rfl⟩
          have hp1 : IntKind.u8.wrap ((((s[k]'hk).toNat : Nat) : Int) / 16) = (p : Int) := by rw [wrap_u8_small _ (by omega) (by omega)]; omega
          have hq1 : (((s[k]'hk).toNat : Nat) : Int).tmod 16 = (q : Int) := by rw [Int.tmod_eq_emod_of_nonneg (by omega)]; omega
          have hq3 : (((s[k]'hk).toNat : Nat) : Int) % 16 = (q : Int) := by omega
          have hq4 : IntKind.u8.wrap (q : Int) = (q : Int) := by rw [wrap_u8_small _ (by omega) (by omega)]
          have hp16 : (p : Int) < 16 := by omega
          have hq16 : (q : Int) < 16 := by omega
          have HP := Lib.hid hp
          have HQ := Lib.hid hqm
          clear hp hqm
          go_region_law ((refine step_qo_four rfl (.tmp 63) (.tmp 70) rfl _ _ rfl (by simp [Act.eval, Act.put]) (by simp [Act.eval, Act.put]) hq2.out (by simp only [List.length_append, List.length_cons, List.length_nil]; omega) ?_; intro v5 w5 hq5))
          all_goals
            clear hp1 hq1 hq3 hq4
            go_wp2
            go_roundw
            case rel =>
              refine ⟨k + 1, acc ++ Lib.quoteStep T rest, f - 1, by go_num, by omega, by omega, ?_, HA.out, HLN.out⟩
              rw [HST.out, HG.out, ← HP.out, ← HQ.out]
              simpa [Hid, List.append_assoc, Lib.lowerhex_at] using hq5
            case measure => simp [intOf]; omega
        · have hd32 : decide (((s[k]'hk).toNat : Int) < 32) = false := by simp; omega
          by_cases h127 : (s[k]'hk).toNat = 127
          · have b127 : (((s[k]'hk).toNat : Int) == 127) = true := by rw [beq_iff_eq]; omega
            have H127 := Lib.hid h127
            have hst := step_hex rest h0 (by rw [HG.out]; exact hnot) (by rw [HG.out]; exact .inr (.inl H127.out))
            have HST := Lib.hid hst.1
            have hK1' : K = 1 := by rw [HK.out]; exact hst.2
            subst hK1'
            clear hst hnot h127
            go_wp2_with fail
            have hx255 := UInt8.toNat_lt (s[k]'hk)
            obtain ⟨p, hp⟩ : ∃ p, p = (s[k]'hk).toNat / 16 := ⟨_, rfl⟩
            obtain ⟨q, hqm⟩ : ∃ q, q = (s[k]'hk).toNat % 16 := ⟨_, rfl⟩
            have hp1 : IntKind.u8.wrap ((((s[k]'hk).toNat : Nat) : Int) / 16) = (p : Int) := by rw [wrap_u8_small _ (by omega) (by omega)]; omega
            have hq1 : (((s[k]'hk).toNat : Nat) : Int).tmod 16 = (q : Int) := by rw [Int.tmod_eq_emod_of_nonneg (by omega)]; omega
            have hq3 : (((s[k]'hk).toNat : Nat) : Int) % 16 = (q : Int) := by omega
            have hq4 : IntKind.u8.wrap (q : Int) = (q : Int) := by rw [wrap_u8_small _ (by omega) (by omega)]
            have hp16 : (p : Int) < 16 := by omega
            have hq16 : (q : Int) < 16 := by omega
            have HP := Lib.hid hp
            have HQ := Lib.hid hqm
            clear hp hqm
            go_region_law ((refine step_qo_four rfl (.tmp 63) (.tmp 70) rfl _ _ rfl (by simp [Act.eval, Act.put]) (by simp [Act.eval, Act.put]) hq2.out (by simp only [List.length_append, List.length_cons, List.length_nil]; omega) ?_; intro v5 w5 hq5))
            all_goals
              clear hp1 hq1 hq3 hq4
              go_wp2
              go_roundw
              case rel =>
                refine ⟨k + 1, acc ++ Lib.quoteStep T rest, f - 1, by go_num, by omega, by omega, ?_, HA.out, HLN.out⟩
                rw [HST.out, HG.out, ← HP.out, ← HQ.out]
                simpa [Hid, List.append_assoc, Lib.lowerhex_at] using hq5
              case measure => simp [intOf]; omega
          · have b127 : (((s[k]'hk).toNat : Int) == 127) = false := by rw [beq_eq_false_iff_ne]; omega
            by_cases hbad : K = 1 ∧ R = 65533
            · have bR : ((R : Int) == 65533) = true := by rw [beq_iff_eq]; omega
              have bK : decide ((K : Int) < 2) = true := by simp; omega
              have hst := step_hex rest h0 (by rw [HG.out]; exact hnot) (.inr (.inr (by rw [← HK.out, ← HR.out]; exact hbad)))
              have HST := Lib.hid hst.1
              have hK1' : K = 1 := by rw [HK.out]; exact hst.2
              have H65 := Lib.hid hbad.2
              clear hbad
              subst hK1'
              clear hst hnot
              go_wp2_with fail
              have hx255 := UInt8.toNat_lt (s[k]'hk)
              obtain ⟨p, hp⟩ : ∃ p, p = (s[k]'hk).toNat / 16 := ⟨_, rfl⟩
              obtain ⟨q, hqm⟩ : ∃ q, q = (s[k]'hk).toNat % 16 := ⟨_, rfl⟩
              have hp1 : IntKind.u8.wrap ((((s[k]'hk).toNat : Nat) : Int) / 16) = (p : Int) := by rw [wrap_u8_small _ (by omega) (by omega)]; omega
              have hq1 : (((s[k]'hk).toNat : Nat) : Int).tmod 16 = (q : Int) := by rw [Int.tmod_eq_emod_of_nonneg (by omega)]; omega
              have hq3 : (((s[k]'hk).toNat : Nat) : Int) % 16 = (q : Int) := by omega
              have hq4 : IntKind.u8.wrap (q : Int) = (q : Int) := by rw [wrap_u8_small _ (by omega) (by omega)]
              have hp16 : (p : Int) < 16 := by omega
              have hq16 : (q : Int) < 16 := by omega
              have HP := Lib.hid hp
              have HQ := Lib.hid hqm
              clear hp hqm
              go_region_law ((refine step_qo_four rfl (.tmp 63) (.tmp 70) rfl _ _ rfl (by simp [Act.eval, Act.put]) (by simp [Act.eval, Act.put]) hq2.out (by simp only [List.length_append, List.length_cons, List.length_nil]; omega) ?_; intro v5 w5 hq5))
              all_goals
                clear hp1 hq1 hq3 hq4
                go_wp2
                go_roundw
                case rel =>
                  refine ⟨k + 1, acc ++ Lib.quoteStep T rest, f - 1, by go_num, by omega, by omega, ?_, HA.out, HLN.out⟩
                  rw [HST.out, HG.out, ← HP.out, ← HQ.out]
                  simpa [Hid, List.append_assoc, Lib.lowerhex_at] using hq5
                case measure => simp [intOf]; omega
            · by_cases hR5 : R = 65533
              · have bR : ((R : Int) == 65533) = true := by rw [beq_iff_eq]; omega
                have bK : decide ((K : Int) < 2) = false := by simp; omega
                have HR5 := Lib.hid hR5
                cases hP : Lib.isPrintR T (R : Int) with
                | true =>
                  have hst := step_print rest h0 (by rw [HG.out]; exact hnot) (by rw [← HK.out, ← HR.out]; exact hbad) (by rw [← HR.out]; exact hP)
                  rw [← HK.out] at hst
                  have HST := Lib.hid hst
                  clear hst hnot hbad hR5
                  go_wp2_with (first | (go_at_call 23; refine (is_print _ _ (by omega) (by omega) HTr2.out).mono ?_; rw [hP]; rintro e w4 ⟨rfl, hbp⟩; have hq3 := Lib.hid (hq2.out.below hbp); clear hbp hP hq2 HTr2) | (at_builtin; refine wpList_qo_str rfl _ _ rfl _ rfl rfl hq3.out (by simp only [List.length_append, List.length_cons, List.length_nil, ByteArray.size_extract]; omega) ?_; intro _ _ hq))
                  go_roundw
                  case rel =>
                    refine ⟨k + K, acc ++ Lib.quoteStep T rest, f - 1, by go_num, by omega, by omega, ?_, HA.out, HLN.out⟩
                    rw [HST.out, HRE.out]
                    rw [← ints_cut s k K hK2]
                    simpa [Hid, List.append_assoc] using hq
                  case measure => simp [intOf]; omega
                | false =>
                  have hst := step_coded rest h0 (by rw [HG.out]; exact high_of HR.out hR5 hbad h0 HG.out) (by rw [← HK.out, ← HR.out]; exact hbad) (by rw [← HR.out]; exact hP)
                  rw [← HR.out] at hst
                  have HST := Lib.hid hst
                  have hRm : R ≤ 1114111 := by
                    have := Lib.rune_valid rest
                    rw [← HR.out] at this
                    simp [Lib.validRune] at this
                    omega
                  have hcl := codedZ_len R
                  clear hst hnot hbad hR5
                  go_wp2_with (go_at_call 23; refine (is_print _ _ (by omega) (by omega) HTr2.out).mono ?_; rw [hP]; rintro e w4 ⟨rfl, hbp⟩)
                  have hq3 := Lib.hid (hq2.out.below hbp)
                  clear hbp hP hq2 HTr2
                  refine (coded_any R hRm _).mono ?_
                  rintro e w6 ⟨v6, rfl, hq6⟩
                  have hq7 := hq3.out.below hq6.2
                  have hrow := hq6.1
                  clear hq6 hq3
                  go_wp2_with (at_builtin; refine wpList_qo_row rfl _ _ rfl (codedZ R) (by omega) _ _ hrow rfl rfl hq7 (by simp only [List.length_append, List.length_cons, List.length_nil]; omega) ?_; intro _ _ hq)
                  go_roundw
                  case rel =>
                    refine ⟨k + K, acc ++ Lib.quoteStep T rest, f - 1, by go_num, by omega, by omega, ?_, HA.out, HLN.out⟩
                    rw [HST.out]
                    simpa [Hid, List.append_assoc] using hq
                  case measure => simp [intOf]; omega
              · have bR : ((R : Int) == 65533) = false := by rw [beq_eq_false_iff_ne]; omega
                cases hP : Lib.isPrintR T (R : Int) with
                | true =>
                  have hst := step_print rest h0 (by rw [HG.out]; exact hnot) (by rw [← HK.out, ← HR.out]; exact hbad) (by rw [← HR.out]; exact hP)
                  rw [← HK.out] at hst
                  have HST := Lib.hid hst
                  clear hst hnot hbad
                  go_wp2_with (first | (go_at_call 23; refine (is_print _ _ (by omega) (by omega) HTr2.out).mono ?_; rw [hP]; rintro e w4 ⟨rfl, hbp⟩; have hq3 := Lib.hid (hq2.out.below hbp); clear hbp hP hq2 HTr2) | (at_builtin; refine wpList_qo_str rfl _ _ rfl _ rfl rfl hq3.out (by simp only [List.length_append, List.length_cons, List.length_nil, ByteArray.size_extract]; omega) ?_; intro _ _ hq))
                  go_roundw
                  case rel =>
                    refine ⟨k + K, acc ++ Lib.quoteStep T rest, f - 1, by go_num, by omega, by omega, ?_, HA.out, HLN.out⟩
                    rw [HST.out, HRE.out]
                    rw [← ints_cut s k K hK2]
                    simpa [Hid, List.append_assoc] using hq
                  case measure => simp [intOf]; omega
                | false =>
                  have hst := step_coded rest h0 (by rw [HG.out]; exact high_byte2 HR.out hP h32 h127 hnot h0 HG.out) (by rw [← HK.out, ← HR.out]; exact hbad) (by rw [← HR.out]; exact hP)
                  rw [← HR.out] at hst
                  have HST := Lib.hid hst
                  have hRm : R ≤ 1114111 := by
                    have := Lib.rune_valid rest
                    rw [← HR.out] at this
                    simp [Lib.validRune] at this
                    omega
                  have hcl := codedZ_len R
                  clear hst hnot hbad
                  go_wp2_with (go_at_call 23; refine (is_print _ _ (by omega) (by omega) HTr2.out).mono ?_; rw [hP]; rintro e w4 ⟨rfl, hbp⟩)
                  have hq3 := Lib.hid (hq2.out.below hbp)
                  clear hbp hP hq2 HTr2
                  refine (coded_any R hRm _).mono ?_
                  rintro e w6 ⟨v6, rfl, hq6⟩
                  have hq7 := hq3.out.below hq6.2
                  have hrow := hq6.1
                  clear hq6 hq3
                  go_wp2_with (at_builtin; refine wpList_qo_row rfl _ _ rfl (codedZ R) (by omega) _ _ hrow rfl rfl hq7 (by simp only [List.length_append, List.length_cons, List.length_nil]; omega) ?_; intro _ _ hq)
                  go_roundw
                  case rel =>
                    refine ⟨k + K, acc ++ Lib.quoteStep T rest, f - 1, by go_num, by omega, by omega, ?_, HA.out, HLN.out⟩
                    rw [HST.out]
                    simpa [Hid, List.append_assoc] using hq
                  case measure => simp [intOf]; omega
    · have hdk : decide ((k : Int) < (s.size : Int)) = false := by simp; omega
      have hq := hqr.out
      have he := hqf.out
      rw [Lib.quoteFrom_end T f _ (by simp; omega), List.append_nil] at he
      have HE := Lib.hid he
      clear he hqr hone
      go_wp2_with (at_builtin; refine wpList_qo_byte rfl _ _ rfl _ rfl rfl rfl (by assumption) (by simp only [List.length_append, List.length_cons, List.length_nil]; omega) ?_; intro _ _ hq)
      have hcv := qo_text hq (by simp)
      rw [hcv]
      go_wp2
      go_ret
      refine ⟨?_, hq.2⟩
      rw [Lib.quoteZ, ← HE.out]
      simp
end Go.Proofs.YtkddmiamdpbgiaaDoor
