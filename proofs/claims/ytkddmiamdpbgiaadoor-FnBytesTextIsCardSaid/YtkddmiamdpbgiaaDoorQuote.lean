/- The walk of the package's literal of a text (syntax.Quote), as of bytes: after the kit's walk of strconv.Quote. -/
import Derived.Test.YtkddmiamdpbgiaaDoorQEnc
import Derived.Test.YtkddmiamdpbgiaaDoorQWidth
import Derived.Shelf.Strconv.Quote
import Derived.Lib.PrintData
import Derived.Laws.RangeString
namespace Go.Proofs.YtkddmiamdpbgiaaDoor
open Go.RowKit Go.Shelf
/-- Go's tables: utf8's two, strconv's four. -/
def PTabs (w : World) : Prop := Lib.PrintTabsAt 0 1 2 3 Lib.goPrintTabs w ∧ Tabs w
theorem ptabs_below {w w' : World} (h : PTabs w) (hb : Below w.heap.size w w') : PTabs w' := ⟨printTabs_below h.1 hb, tabs_below h.2 hb⟩
def T : Lib.PrintTabs := Lib.goPrintTabs
theorem is_print (r : Int) (w : World) (h0 : 0 ≤ r) (h1 : r ≤ 2147483647) (hT : PTabs w) :
    Calls Tryd.prog 23 #[.int .i32 r] w fun e w' => e = .returned (.bool (Lib.isPrintR T r)) ∧ Below w.heap.size w w' :=
  (Tryd.strconv_IsPrint Lib.goPrintTabs r w (by omega) h1 hT.1).mono fun _ _ ⟨h, q, e⟩ => ⟨h, e ▸ below_dn (Below.refl _ _) q⟩
theorem run_text {w0 w : World} {b : Nat} {v : Value} {xs : List Int} (h : QB w0 b v xs w) (h0 : 0 < xs.length) : (convert 33 9 v).run Tryd.prog w = .ok (.string (strOfNums xs)) w := by
  rcases h.1.2 with ⟨rfl, h1⟩ | ⟨g, cap, cur, rfl, hrest⟩
  · omega
  · refine run_convert_bytes_arg w 33 5 Tryd.underlying33 Tryd.underlying5 g 0 _ cap xs rfl (fun i hi => ?_) 9 Tryd.underlying9
    have := h.1.cells (g := g) rfl i (.int .u8 (xs.getD i 0)) (by simp [Lib.intCells, List.getD, List.getElem?_eq_getElem hi])
    by_cases hi0 : i = 0 <;> simpa [Addr.add, hi0] using this
theorem qb_start {w w1 : World} {c : Nat} {cs : Array Value} (hown : w1.ownsRow (w.heap.size + 1) 5 1 (.slice (some ⟨(w.alloc (.cells cs 74)).heap.size, 0, none⟩) 0 c) 0 []) (hg : (w.alloc (.cells cs 74)).grownBy w1 none) (hcs : cs.size = 4) :
    QB w w.heap.size (.slice (some ⟨w.heap.size + 1, 0, none⟩) 0 c) [] w1 := by
  have e : (w.alloc (.cells cs 74)).heap.size = w.heap.size + 1 := by simp
  rw [e] at hown
  exact ⟨hown, ((Below.refl _ w).alloc (Nat.le_refl _) _).grown hg (by simp) (fun _ h => nomatch h), cs, (Blk.new w _ cs).grown hg (fun h => nomatch h), hcs⟩
def ints (t : ByteArray) : List Int := t.data.toList.map fun c => (c.toNat : Int)
theorem ints_len (t : ByteArray) : (ints t).length = t.size := by simp [ints]
theorem size2 (a b : UInt8) : (ByteArray.mk #[a, b]).size = 2 := rfl
theorem wpList_qb_str {w0 w : World} {b : Nat} {v : Value} {xs : List Int} {ops : Array Oper} {rest : List Oper} {o : Oper} {a : Act} {Q : Exit → Act → World → Prop} (hgd : o.guard = none) (s x : Operand)
    (ho : o.op = .call { callee := .builtin .append, args := #[s, x], argTypes := #[33, 9] })
    (t : ByteArray) (hx : a.eval x = .string t) (hs : a.eval s = v) (hq : QB w0 b v xs w) (hlen : xs.length + t.size ≤ 140737488355328)
    (h : ∀ v' w', QB w0 b v' (xs ++ ints t) w' → wpList Tryd.prog ops Q rest (a.put o.dst v') w') : wpList Tryd.prog ops Q (o :: rest) a w :=
  wpList_qb_text hgd s x ho t (ints t) hx (by simp [Lib.strCells, Lib.intCells, ints]) (by simp [ints]) hs hq hlen h
set_option maxRecDepth 1000000 in
set_option maxHeartbeats 8000000 in
theorem quote_bytes (s : ByteArray) (hs : s.size ≤ 2147483647) (w : World) (hT : PTabs w) :
    Calls Tryd.prog 31 #[.string s, .bool true] w fun e w' => e = .returned (.string (strOfNums (98 :: Lib.quoteZ T s))) ∧ Below w.heap.size w w' := by
  obtain ⟨i0, hi, hz0, hz1, hz2⟩ := info_parts Tryd.infoByte
  have HT := Lib.hid hT
  clear hT
  obtain ⟨c, hc⟩ : ∃ c, c = 3 * s.size / 2 := ⟨_, rfl⟩
  have hcI : 3 * (s.size : Int) / 2 = (c : Int) := by omega
  have hc2 : c ≤ 140737488355328 := by omega
  have Hc := Lib.hid hc
  clear hc
  go_enter Tryd.func31, Tryd.ntmps31
  go_wp2_with (first
    | (at_make; refine wpList_make_own _ rfl _ _ 33 rfl (w.heap.size + 1) 5 i0 (.int .u8 0) 1 Tryd.underlying33 hi hz0 hz1 _ _ _ c rfl rfl (by first | rfl | assumption) (by rw [hz2]; omega) (by unfold maxLen; omega) (by simp) ?_; intro w1 hown hg; have hq := qb_start hown hg rfl; clear hown hg)
    | (at_builtin; first
      | (refine wpList_qb_byte rfl _ _ rfl _ rfl rfl rfl (by assumption) (by simp only [List.length_append, List.length_cons, List.length_nil, ints_len, size2]; omega) ?_; intro _ _ hq)
      | (refine wpList_qb_str rfl _ _ rfl _ rfl rfl (by assumption) (by simp only [List.length_append, List.length_cons, List.length_nil, ints_len, size2]; omega) ?_; intro _ _ hq)))
  have Hq0 := Lib.hid hq
  clear hq
  go_loopw [0, 6, 7] (fun vs vb _ wr => ∃ (rest : ByteArray) (acc : List Int) (f : Nat), vs = .string rest ∧ rest.size ≤ f ∧ Hid (QB w w.heap.size vb ([98, 34] ++ acc) wr) ∧ Hid (acc ++ Lib.quoteFrom T f rest = Lib.quoteFrom T s.size s) ∧ acc.length + 10 * rest.size ≤ 10 * s.size)
    (fun vs _ _ _ => match vs with | .string r => r.size | _ => 0)
  case atStart => exact ⟨s, [], s.size, rfl, Nat.le_refl _, by simpa [Hid] using Hq0.out, rfl, by simp⟩
  case round =>
    obtain ⟨rest, acc, f, rfl, hf, hqr, hqf, hl⟩ := hrel
    by_cases h0 : 0 < rest.size
    · obtain ⟨R, hR⟩ : ∃ R, R = (Utf8.decode rest 0).1 := ⟨_, rfl⟩
      obtain ⟨K, hK⟩ : ∃ K, K = (Utf8.decode rest 0).2 := ⟨_, rfl⟩
      have hK1 : 1 ≤ K := by rw [hK]; exact Lib.width_pos _ _
      have hK2 : K ≤ rest.size := by rw [hK]; exact Lib.width_le _ h0
      have hR2 : R ≤ 2147483647 := by rw [hR]; exact decode_le _ _
      have h0' : (0 : Int) < (rest.size : Int) := by omega
      have hsz : (rest.extract K rest.size).size = rest.size - K := Lib.size_rest rest K
      have hrz : rest.size ≤ s.size := by omega
      have hq := hqr.out
      have HTr := Lib.hid (ptabs_below HT.out (hq.2.1.mono (Nat.le_refl _)))
      clear hqr
      by_cases ha : (rest[0]'h0).toNat < 128
      · have hd := decode_ascii rest 0 h0 ha
        have hK' : K = 1 := by rw [hK, hd]
        subst hK'
        have hre : ((rest[0]'h0).toNat : Int) = (R : Int) := by rw [hR, hd]
        have hR128 : ¬ (128 : Int) ≤ (R : Int) := by omega
        have hst0 : Lib.quoteStep T rest = Lib.escRune T (R : Int) := by
          rw [hR]; exact Lib.quoteStep_good T rest (by rw [← hK, ← hR]; omega)
        have HK := Lib.hid hK
        have HR := Lib.hid hR
        clear hK hR hd
        by_cases e34 : R = 34
        · subst e34
          have hst : Lib.quoteStep T rest = [92, 34] := by rw [hst0]; simp [Lib.escRune]
          clear hst0 HTr
          go_wp2_with (at_builtin; first
          | (refine wpList_qb_byte rfl _ _ rfl _ rfl rfl rfl (by assumption) (by simp only [List.length_append, List.length_cons, List.length_nil, ints_len, size2]; omega) ?_; intro _ _ hq)
          | (refine wpList_qb_str rfl _ _ rfl _ rfl rfl (by assumption) (by simp only [List.length_append, List.length_cons, List.length_nil, ints_len, size2]; omega) ?_; intro _ _ hq))
          go_roundw
          case rel =>
            refine ⟨_, acc ++ Lib.quoteStep T rest, f - 1, rfl, by omega, ?_, ?_, ?_⟩
            · rw [hst]
              simpa [Hid, ints, List.append_assoc] using hq
            · show acc ++ Lib.quoteStep T rest ++ Lib.quoteFrom T (f - 1) (rest.extract 1 rest.size) = _
              rw [← hqf.out, Lib.quoteFrom_step T f rest h0 hf, ← HK.out, List.append_assoc]
            · have := Lib.quoteStep_length_le T rest
              simp only [List.length_append]; omega
          case measure => simp only []; omega
        by_cases e92 : R = 92
        · subst e92
          have hst : Lib.quoteStep T rest = [92, 92] := by rw [hst0]; simp [Lib.escRune]
          clear hst0 HTr
          go_wp2_with (at_builtin; first
          | (refine wpList_qb_byte rfl _ _ rfl _ rfl rfl rfl (by assumption) (by simp only [List.length_append, List.length_cons, List.length_nil, ints_len, size2]; omega) ?_; intro _ _ hq)
          | (refine wpList_qb_str rfl _ _ rfl _ rfl rfl (by assumption) (by simp only [List.length_append, List.length_cons, List.length_nil, ints_len, size2]; omega) ?_; intro _ _ hq))
          go_roundw
          case rel =>
            refine ⟨_, acc ++ Lib.quoteStep T rest, f - 1, rfl, by omega, ?_, ?_, ?_⟩
            · rw [hst]
              simpa [Hid, ints, List.append_assoc] using hq
            · show acc ++ Lib.quoteStep T rest ++ Lib.quoteFrom T (f - 1) (rest.extract 1 rest.size) = _
              rw [← hqf.out, Lib.quoteFrom_step T f rest h0 hf, ← HK.out, List.append_assoc]
            · have := Lib.quoteStep_length_le T rest
              simp only [List.length_append]; omega
          case measure => simp only []; omega
        by_cases e7 : R = 7
        · subst e7
          have hP : Lib.isPrintR T 7 = false := by kernel_rfl
          have hst : Lib.quoteStep T rest = [92, 97] := by rw [hst0]; simp [Lib.escRune, hP]
          clear hst0
          go_wp2_with (first | (go_at_call 23; refine (is_print _ _ (by omega) (by omega) HTr.out).mono ?_; rw [hP]; rintro e w2 ⟨rfl, hbp⟩; have hq := QB.below hq hbp; clear hbp) | (at_builtin; first
          | (refine wpList_qb_byte rfl _ _ rfl _ rfl rfl rfl (by assumption) (by simp only [List.length_append, List.length_cons, List.length_nil, ints_len, size2]; omega) ?_; intro _ _ hq)
          | (refine wpList_qb_str rfl _ _ rfl _ rfl rfl (by assumption) (by simp only [List.length_append, List.length_cons, List.length_nil, ints_len, size2]; omega) ?_; intro _ _ hq)))
          go_roundw
          case rel =>
            refine ⟨_, acc ++ Lib.quoteStep T rest, f - 1, rfl, by omega, ?_, ?_, ?_⟩
            · rw [hst]
              simpa [Hid, ints, List.append_assoc] using hq
            · show acc ++ Lib.quoteStep T rest ++ Lib.quoteFrom T (f - 1) (rest.extract 1 rest.size) = _
              rw [← hqf.out, Lib.quoteFrom_step T f rest h0 hf, ← HK.out, List.append_assoc]
            · have := Lib.quoteStep_length_le T rest
              simp only [List.length_append]; omega
          case measure => simp only []; omega
        by_cases e8 : R = 8
        · subst e8
          have hP : Lib.isPrintR T 8 = false := by kernel_rfl
          have hst : Lib.quoteStep T rest = [92, 98] := by rw [hst0]; simp [Lib.escRune, hP]
          clear hst0
          go_wp2_with (first | (go_at_call 23; refine (is_print _ _ (by omega) (by omega) HTr.out).mono ?_; rw [hP]; rintro e w2 ⟨rfl, hbp⟩; have hq := QB.below hq hbp; clear hbp) | (at_builtin; first
          | (refine wpList_qb_byte rfl _ _ rfl _ rfl rfl rfl (by assumption) (by simp only [List.length_append, List.length_cons, List.length_nil, ints_len, size2]; omega) ?_; intro _ _ hq)
          | (refine wpList_qb_str rfl _ _ rfl _ rfl rfl (by assumption) (by simp only [List.length_append, List.length_cons, List.length_nil, ints_len, size2]; omega) ?_; intro _ _ hq)))
          go_roundw
          case rel =>
            refine ⟨_, acc ++ Lib.quoteStep T rest, f - 1, rfl, by omega, ?_, ?_, ?_⟩
            · rw [hst]
              simpa [Hid, ints, List.append_assoc] using hq
            · show acc ++ Lib.quoteStep T rest ++ Lib.quoteFrom T (f - 1) (rest.extract 1 rest.size) = _
              rw [← hqf.out, Lib.quoteFrom_step T f rest h0 hf, ← HK.out, List.append_assoc]
            · have := Lib.quoteStep_length_le T rest
              simp only [List.length_append]; omega
          case measure => simp only []; omega
        by_cases e12 : R = 12
        · subst e12
          have hP : Lib.isPrintR T 12 = false := by kernel_rfl
          have hst : Lib.quoteStep T rest = [92, 102] := by rw [hst0]; simp [Lib.escRune, hP]
          clear hst0
          go_wp2_with (first | (go_at_call 23; refine (is_print _ _ (by omega) (by omega) HTr.out).mono ?_; rw [hP]; rintro e w2 ⟨rfl, hbp⟩; have hq := QB.below hq hbp; clear hbp) | (at_builtin; first
          | (refine wpList_qb_byte rfl _ _ rfl _ rfl rfl rfl (by assumption) (by simp only [List.length_append, List.length_cons, List.length_nil, ints_len, size2]; omega) ?_; intro _ _ hq)
          | (refine wpList_qb_str rfl _ _ rfl _ rfl rfl (by assumption) (by simp only [List.length_append, List.length_cons, List.length_nil, ints_len, size2]; omega) ?_; intro _ _ hq)))
          go_roundw
          case rel =>
            refine ⟨_, acc ++ Lib.quoteStep T rest, f - 1, rfl, by omega, ?_, ?_, ?_⟩
            · rw [hst]
              simpa [Hid, ints, List.append_assoc] using hq
            · show acc ++ Lib.quoteStep T rest ++ Lib.quoteFrom T (f - 1) (rest.extract 1 rest.size) = _
              rw [← hqf.out, Lib.quoteFrom_step T f rest h0 hf, ← HK.out, List.append_assoc]
            · have := Lib.quoteStep_length_le T rest
              simp only [List.length_append]; omega
          case measure => simp only []; omega
        by_cases e10 : R = 10
        · subst e10
          have hP : Lib.isPrintR T 10 = false := by kernel_rfl
          have hst : Lib.quoteStep T rest = [92, 110] := by rw [hst0]; simp [Lib.escRune, hP]
          clear hst0
          go_wp2_with (first | (go_at_call 23; refine (is_print _ _ (by omega) (by omega) HTr.out).mono ?_; rw [hP]; rintro e w2 ⟨rfl, hbp⟩; have hq := QB.below hq hbp; clear hbp) | (at_builtin; first
          | (refine wpList_qb_byte rfl _ _ rfl _ rfl rfl rfl (by assumption) (by simp only [List.length_append, List.length_cons, List.length_nil, ints_len, size2]; omega) ?_; intro _ _ hq)
          | (refine wpList_qb_str rfl _ _ rfl _ rfl rfl (by assumption) (by simp only [List.length_append, List.length_cons, List.length_nil, ints_len, size2]; omega) ?_; intro _ _ hq)))
          go_roundw
          case rel =>
            refine ⟨_, acc ++ Lib.quoteStep T rest, f - 1, rfl, by omega, ?_, ?_, ?_⟩
            · rw [hst]
              simpa [Hid, ints, List.append_assoc] using hq
            · show acc ++ Lib.quoteStep T rest ++ Lib.quoteFrom T (f - 1) (rest.extract 1 rest.size) = _
              rw [← hqf.out, Lib.quoteFrom_step T f rest h0 hf, ← HK.out, List.append_assoc]
            · have := Lib.quoteStep_length_le T rest
              simp only [List.length_append]; omega
          case measure => simp only []; omega
        by_cases e13 : R = 13
        · subst e13
          have hP : Lib.isPrintR T 13 = false := by kernel_rfl
          have hst : Lib.quoteStep T rest = [92, 114] := by rw [hst0]; simp [Lib.escRune, hP]
          clear hst0
          go_wp2_with (first | (go_at_call 23; refine (is_print _ _ (by omega) (by omega) HTr.out).mono ?_; rw [hP]; rintro e w2 ⟨rfl, hbp⟩; have hq := QB.below hq hbp; clear hbp) | (at_builtin; first
          | (refine wpList_qb_byte rfl _ _ rfl _ rfl rfl rfl (by assumption) (by simp only [List.length_append, List.length_cons, List.length_nil, ints_len, size2]; omega) ?_; intro _ _ hq)
          | (refine wpList_qb_str rfl _ _ rfl _ rfl rfl (by assumption) (by simp only [List.length_append, List.length_cons, List.length_nil, ints_len, size2]; omega) ?_; intro _ _ hq)))
          go_roundw
          case rel =>
            refine ⟨_, acc ++ Lib.quoteStep T rest, f - 1, rfl, by omega, ?_, ?_, ?_⟩
            · rw [hst]
              simpa [Hid, ints, List.append_assoc] using hq
            · show acc ++ Lib.quoteStep T rest ++ Lib.quoteFrom T (f - 1) (rest.extract 1 rest.size) = _
              rw [← hqf.out, Lib.quoteFrom_step T f rest h0 hf, ← HK.out, List.append_assoc]
            · have := Lib.quoteStep_length_le T rest
              simp only [List.length_append]; omega
          case measure => simp only []; omega
        by_cases e9 : R = 9
        · subst e9
          have hP : Lib.isPrintR T 9 = false := by kernel_rfl
          have hst : Lib.quoteStep T rest = [92, 116] := by rw [hst0]; simp [Lib.escRune, hP]
          clear hst0
          go_wp2_with (first | (go_at_call 23; refine (is_print _ _ (by omega) (by omega) HTr.out).mono ?_; rw [hP]; rintro e w2 ⟨rfl, hbp⟩; have hq := QB.below hq hbp; clear hbp) | (at_builtin; first
          | (refine wpList_qb_byte rfl _ _ rfl _ rfl rfl rfl (by assumption) (by simp only [List.length_append, List.length_cons, List.length_nil, ints_len, size2]; omega) ?_; intro _ _ hq)
          | (refine wpList_qb_str rfl _ _ rfl _ rfl rfl (by assumption) (by simp only [List.length_append, List.length_cons, List.length_nil, ints_len, size2]; omega) ?_; intro _ _ hq)))
          go_roundw
          case rel =>
            refine ⟨_, acc ++ Lib.quoteStep T rest, f - 1, rfl, by omega, ?_, ?_, ?_⟩
            · rw [hst]
              simpa [Hid, ints, List.append_assoc] using hq
            · show acc ++ Lib.quoteStep T rest ++ Lib.quoteFrom T (f - 1) (rest.extract 1 rest.size) = _
              rw [← hqf.out, Lib.quoteFrom_step T f rest h0 hf, ← HK.out, List.append_assoc]
            · have := Lib.quoteStep_length_le T rest
              simp only [List.length_append]; omega
          case measure => simp only []; omega
        by_cases e11 : R = 11
        · subst e11
          have hP : Lib.isPrintR T 11 = false := by kernel_rfl
          have hst : Lib.quoteStep T rest = [92, 118] := by rw [hst0]; simp [Lib.escRune, hP]
          clear hst0
          go_wp2_with (first | (go_at_call 23; refine (is_print _ _ (by omega) (by omega) HTr.out).mono ?_; rw [hP]; rintro e w2 ⟨rfl, hbp⟩; have hq := QB.below hq hbp; clear hbp) | (at_builtin; first
          | (refine wpList_qb_byte rfl _ _ rfl _ rfl rfl rfl (by assumption) (by simp only [List.length_append, List.length_cons, List.length_nil, ints_len, size2]; omega) ?_; intro _ _ hq)
          | (refine wpList_qb_str rfl _ _ rfl _ rfl rfl (by assumption) (by simp only [List.length_append, List.length_cons, List.length_nil, ints_len, size2]; omega) ?_; intro _ _ hq)))
          go_roundw
          case rel =>
            refine ⟨_, acc ++ Lib.quoteStep T rest, f - 1, rfl, by omega, ?_, ?_, ?_⟩
            · rw [hst]
              simpa [Hid, ints, List.append_assoc] using hq
            · show acc ++ Lib.quoteStep T rest ++ Lib.quoteFrom T (f - 1) (rest.extract 1 rest.size) = _
              rw [← hqf.out, Lib.quoteFrom_step T f rest h0 hf, ← HK.out, List.append_assoc]
            · have := Lib.quoteStep_length_le T rest
              simp only [List.length_append]; omega
          case measure => simp only []; omega
        have hn34 : ¬ (R : Int) = 34 := by omega
        have hn92 : ¬ (R : Int) = 92 := by omega
        have b34 : ((R : Int) == 34) = false := by rw [beq_eq_false_iff_ne]; omega
        have b92 : ((R : Int) == 92) = false := by rw [beq_eq_false_iff_ne]; omega
        by_cases hp : 32 ≤ R ∧ R ≤ 126
        · have hP : Lib.isPrintR T (R : Int) = true := by
            have h255 : (R : Int) ≤ 255 := by omega
            simp only [Lib.isPrintR, if_pos h255, Lib.isPrintLatin]
            simp; omega
          have hst : Lib.quoteStep T rest = Lib.encodeRuneZ (R : Int) := by
            rw [hst0, Lib.escRune, if_neg (by omega), if_pos hP]
          have hL := (Lib.encodeRuneZ_length (R : Int)).2
          have hL' : ((Lib.encodeRuneZ (R : Int)).length : Int) ≤ 4 := by omega
          clear hst0
          go_wp2_with (first | (go_at_call 23; refine (is_print _ _ (by omega) (by omega) HTr.out).mono ?_; rw [hP]; rintro e w2 ⟨rfl, hbp⟩; have hq := QB.below hq hbp; clear hbp) | (go_at_call 41; refine (enc_qb (R : Int) (by omega) (by omega) hq).mono ?_; rintro e w3 ⟨rfl, hq, hcells⟩) | (at_builtin; refine wpList_qb_arr rfl _ _ rfl (Lib.encodeRuneZ (R : Int)) _ _ rfl rfl hcells rfl hq (by simp only [List.length_append, List.length_cons, List.length_nil]; omega) ?_; intro _ _ hq) | (at_builtin; first
          | (refine wpList_qb_byte rfl _ _ rfl _ rfl rfl rfl (by assumption) (by simp only [List.length_append, List.length_cons, List.length_nil, ints_len, size2]; omega) ?_; intro _ _ hq)
          | (refine wpList_qb_str rfl _ _ rfl _ rfl rfl (by assumption) (by simp only [List.length_append, List.length_cons, List.length_nil, ints_len, size2]; omega) ?_; intro _ _ hq)))
          go_roundw
          case rel =>
            refine ⟨_, acc ++ Lib.quoteStep T rest, f - 1, rfl, by omega, ?_, ?_, ?_⟩
            · rw [hst]
              simpa [Hid, ints, List.append_assoc] using hq
            · show acc ++ Lib.quoteStep T rest ++ Lib.quoteFrom T (f - 1) (rest.extract 1 rest.size) = _
              rw [← hqf.out, Lib.quoteFrom_step T f rest h0 hf, ← HK.out, List.append_assoc]
            · have := Lib.quoteStep_length_le T rest
              simp only [List.length_append]; omega
          case measure => simp only []; omega
        · have hP : Lib.isPrintR T (R : Int) = false := by
            have h255 : (R : Int) ≤ 255 := by omega
            simp only [Lib.isPrintR, if_pos h255, Lib.isPrintLatin]
            simp; omega
          have hc : (R : Int) < 32 ∨ (R : Int) = 127 := by omega
          have hst : Lib.quoteStep T rest = [92, 120, Lib.hexDigit (R / 16), Lib.hexDigit (R % 16)] := by
            rw [hst0, Lib.escRune, if_neg (by omega), if_neg (by rw [hP]; simp), if_neg (by omega), if_neg (by omega), if_neg (by omega), if_neg (by omega), if_neg (by omega), if_neg (by omega), if_neg (by omega), if_pos hc]
            simp
          clear hst0
          have hw8 : IntKind.u8.wrap (R : Int) = (R : Int) := by
            have e : (R : Int) % 256 = R := Int.emod_eq_of_lt (by omega) (by omega)
            simp [IntKind.wrap, IntKind.bits, IntKind.signed, e]
          have hx16 : 0 ≤ (R : Int) / 16 ∧ (R : Int) / 16 < 16 := by omega
          rcases (show ((R : Int) < 32) ∨ (¬ ((R : Int) < 32) ∧ ((R : Int) == 127) = true) by
            by_cases hx : (R : Int) < 32
            · exact .inl hx
            · exact .inr ⟨hx, by rw [beq_iff_eq]; omega⟩) with hx1 | ⟨hx1, hx2⟩
          all_goals
            go_wp2_with (first | (go_at_call 23; refine (is_print _ _ (by omega) (by omega) HTr.out).mono ?_; rw [hP]; rintro e w2 ⟨rfl, hbp⟩; have hq := QB.below hq hbp; clear hbp) | (at_builtin; first
          | (refine wpList_qb_byte rfl _ _ rfl _ rfl rfl rfl (by assumption) (by simp only [List.length_append, List.length_cons, List.length_nil, ints_len, size2]; omega) ?_; intro _ _ hq)
          | (refine wpList_qb_str rfl _ _ rfl _ rfl rfl (by assumption) (by simp only [List.length_append, List.length_cons, List.length_nil, ints_len, size2]; omega) ?_; intro _ _ hq)))
            go_roundw
            case rel =>
              refine ⟨_, acc ++ Lib.quoteStep T rest, f - 1, rfl, by omega, ?_, ?_, ?_⟩
              · rw [hst]
                simpa [Hid, ints, List.append_assoc, Lib.size_two, Lib.lowerhex_at] using hq
              · show acc ++ Lib.quoteStep T rest ++ Lib.quoteFrom T (f - 1) (rest.extract 1 rest.size) = _
                rw [← hqf.out, Lib.quoteFrom_step T f rest h0 hf, ← HK.out, List.append_assoc]
              · have := Lib.quoteStep_length_le T rest
                simp only [List.length_append]; omega
            case measure => simp only []; omega
      · have hc128 : (128 : Int) ≤ ((rest[0]'h0).toNat : Int) := by omega
        have hx255 := UInt8.toNat_lt (rest[0]'h0)
        have hx16 : 0 ≤ (((rest[0]'h0).toNat : Nat) : Int) / 16 ∧ (((rest[0]'h0).toNat : Nat) : Int) / 16 < 16 := by omega
        have hR128 : 128 ≤ R := by rw [hR]; exact (decode_high rest 0 h0 (by omega)).1
        have hRv : Lib.validRune (R : Int) = true := by rw [hR]; exact Lib.rune_valid _
        have HK := Lib.hid hK
        have HR := Lib.hid hR
        have HV := Lib.hid hRv
        clear hK hR hRv
        by_cases hbad : K = 1 ∧ R = 65533
        · obtain ⟨rfl, rfl⟩ := hbad
          have hst := Lib.quoteStep_bad T rest h0 HK.out HR.out
          clear hR2 hR128
          go_wp2_with (first | (go_at_call 16; refine (decode_rest rest _ HTr.out.2 h0).mono ?_; rw [← HR.out, ← HK.out]; rintro e w1 ⟨rfl, hbl⟩; have hq := QB.below hq hbl; have HTr := Lib.hid (ptabs_below HTr.out hbl); clear hbl) | (at_builtin; first
          | (refine wpList_qb_byte rfl _ _ rfl _ rfl rfl rfl (by assumption) (by simp only [List.length_append, List.length_cons, List.length_nil, ints_len, size2]; omega) ?_; intro _ _ hq)
          | (refine wpList_qb_str rfl _ _ rfl _ rfl rfl (by assumption) (by simp only [List.length_append, List.length_cons, List.length_nil, ints_len, size2]; omega) ?_; intro _ _ hq)))
          go_roundw
          case rel =>
            refine ⟨_, acc ++ Lib.quoteStep T rest, f - 1, rfl, by omega, ?_, ?_, ?_⟩
            · rw [hst]
              simpa [Hid, ints, List.append_assoc, Lib.size_two, Lib.lowerhex_at] using hq
            · show acc ++ Lib.quoteStep T rest ++ Lib.quoteFrom T (f - 1) (rest.extract 1 rest.size) = _
              rw [← hqf.out, Lib.quoteFrom_step T f rest h0 hf, ← HK.out, List.append_assoc]
            · have := Lib.quoteStep_length_le T rest
              simp only [List.length_append]; omega
          case measure => simp only []; omega
        · have hst0 : Lib.quoteStep T rest = Lib.escRune T (R : Int) := by
            have e := HK.out
            have e2 := HR.out
            rw [HR.out]; exact Lib.quoteStep_good T rest (by rw [← e, ← e2]; exact hbad)
          have hRm : R ≤ 1114111 := by
            have := HV.out
            simp [Lib.validRune] at this
            omega
          have b34 : ((R : Int) == 34) = false := by rw [beq_eq_false_iff_ne]; omega
          have b92 : ((R : Int) == 92) = false := by rw [beq_eq_false_iff_ne]; omega
          have hn34 : ¬ (R : Int) = 34 := by omega
          have hn92 : ¬ (R : Int) = 92 := by omega
          have g1 : ((K : Int) == 1) = false := by
            rw [beq_eq_false_iff_ne]
            intro e
            have e1 : K = 1 := by omega
            exact hbad ⟨e1, by rw [HR.out]; exact high_one rest 0 h0 (by omega) (by rw [← HK.out]; exact e1)⟩
          · clear hbad
            cases hP : Lib.isPrintR T (R : Int) with
            | true =>
              have hst : Lib.quoteStep T rest = Lib.encodeRuneZ (R : Int) := by
                rw [hst0, Lib.escRune, if_neg (by omega), if_pos hP]
              have hL := (Lib.encodeRuneZ_length (R : Int)).2
              have hL' : ((Lib.encodeRuneZ (R : Int)).length : Int) ≤ 4 := by omega
              clear hst0
              go_wp2_with (first | (go_at_call 16; refine (decode_rest rest _ HTr.out.2 h0).mono ?_; rw [← HR.out, ← HK.out]; rintro e w1 ⟨rfl, hbl⟩; have hq := QB.below hq hbl; have HTr := Lib.hid (ptabs_below HTr.out hbl); clear hbl) | (go_at_call 23; refine (is_print _ _ (by omega) (by omega) HTr.out).mono ?_; rw [hP]; rintro e w2 ⟨rfl, hbp⟩; have hq := QB.below hq hbp; clear hbp) | (go_at_call 41; refine (enc_qb (R : Int) (by omega) (by omega) hq).mono ?_; rintro e w3 ⟨rfl, hq, hcells⟩) | (at_builtin; refine wpList_qb_arr rfl _ _ rfl (Lib.encodeRuneZ (R : Int)) _ _ rfl rfl hcells rfl hq (by simp only [List.length_append, List.length_cons, List.length_nil]; omega) ?_; intro _ _ hq) | (at_builtin; first
          | (refine wpList_qb_byte rfl _ _ rfl _ rfl rfl rfl (by assumption) (by simp only [List.length_append, List.length_cons, List.length_nil, ints_len, size2]; omega) ?_; intro _ _ hq)
          | (refine wpList_qb_str rfl _ _ rfl _ rfl rfl (by assumption) (by simp only [List.length_append, List.length_cons, List.length_nil, ints_len, size2]; omega) ?_; intro _ _ hq)))
              go_roundw
              case rel =>
                refine ⟨_, acc ++ Lib.quoteStep T rest, f - 1, rfl, by omega, ?_, ?_, ?_⟩
                · rw [hst]
                  simpa [Hid, ints, List.append_assoc] using hq
                · show acc ++ Lib.quoteStep T rest ++ Lib.quoteFrom T (f - 1) (rest.extract K rest.size) = _
                  rw [← hqf.out, Lib.quoteFrom_step T f rest h0 hf, ← HK.out, List.append_assoc]
                · have := Lib.quoteStep_length_le T rest
                  simp only [List.length_append]; omega
              case measure => simp only []; omega
            | false =>
              have hd32 : decide ((R : Int) < 32) = false := by simp; omega
              have b7 : ((R : Int) == 7) = false := by rw [beq_eq_false_iff_ne]; omega
              have b8 : ((R : Int) == 8) = false := by rw [beq_eq_false_iff_ne]; omega
              have b12 : ((R : Int) == 12) = false := by rw [beq_eq_false_iff_ne]; omega
              have b10 : ((R : Int) == 10) = false := by rw [beq_eq_false_iff_ne]; omega
              have b13 : ((R : Int) == 13) = false := by rw [beq_eq_false_iff_ne]; omega
              have b9 : ((R : Int) == 9) = false := by rw [beq_eq_false_iff_ne]; omega
              have b11 : ((R : Int) == 11) = false := by rw [beq_eq_false_iff_ne]; omega
              have b127 : ((R : Int) == 127) = false := by rw [beq_eq_false_iff_ne]; omega
              have hdm : decide ((1114111 : Int) < (R : Int)) = false := by simp; omega
              by_cases hlt : R < 65536
              · have hdl : decide ((R : Int) < 65536) = true := by simp; omega
                have hst : Lib.quoteStep T rest = 92 :: 117 :: Lib.hexDigits R 4 := by
                  rw [hst0, Lib.escRune, if_neg (by omega), if_neg (by rw [hP]; simp), if_neg (by omega), if_neg (by omega), if_neg (by omega), if_neg (by omega), if_neg (by omega), if_neg (by omega), if_neg (by omega), if_neg (by omega), if_neg (by rw [HV.out]; simp), if_pos (by omega)]
                  simp
                have HST := Lib.hid hst
                clear hst0 hst
                go_wp2_with (first | (go_at_call 16; refine (decode_rest rest _ HTr.out.2 h0).mono ?_; rw [← HR.out, ← HK.out]; rintro e w1 ⟨rfl, hbl⟩; have hq := QB.below hq hbl; have HTr := Lib.hid (ptabs_below HTr.out hbl); clear hbl))
                refine (is_print _ _ (by omega) (by omega) HTr.out).mono ?_
                rw [hP]
                rintro e w2 ⟨rfl, hbp⟩
                have hq := QB.below hq hbp
                clear hbp hP HTr
                go_wp2_with (at_builtin; first | (refine wpList_qb_byte rfl _ _ rfl _ rfl rfl rfl (by assumption) (by simp only [List.length_append, List.length_cons, List.length_nil, ints_len, size2]; omega) ?_; intro _ _ hq) | (refine wpList_qb_str rfl _ _ rfl _ rfl rfl (by assumption) (by simp only [List.length_append, List.length_cons, List.length_nil, ints_len, size2]; omega) ?_; intro _ _ hq))
                clear hd32 b7 b8 b12 b10 b13 b9 b11 b127 hdm hdl
                obtain ⟨d0, hd0⟩ : ∃ d, d = R / 4096 % 16 := ⟨_, rfl⟩
                have hD0 : bits .and .i32 (((R : Int) / 4096)) 15 = (d0 : Int) := by
                  have e := Lib.and15_shift (R : Int) R rfl (by omega) 4096
                  rw [hd0]; simpa using e
                have hL0 : d0 < 16 := by omega
                have hL0' : (d0 : Int) < 16 := by omega
                have HD0 := Lib.hid hd0
                clear hd0
                obtain ⟨d1, hd1⟩ : ∃ d, d = R / 256 % 16 := ⟨_, rfl⟩
                have hD1 : bits .and .i32 (((R : Int) / 256)) 15 = (d1 : Int) := by
                  have e := Lib.and15_shift (R : Int) R rfl (by omega) 256
                  rw [hd1]; simpa using e
                have hL1 : d1 < 16 := by omega
                have hL1' : (d1 : Int) < 16 := by omega
                have HD1 := Lib.hid hd1
                clear hd1
                obtain ⟨d2, hd2⟩ : ∃ d, d = R / 16 % 16 := ⟨_, rfl⟩
                have hD2 : bits .and .i32 (((R : Int) / 16)) 15 = (d2 : Int) := by
                  have e := Lib.and15_shift (R : Int) R rfl (by omega) 16
                  rw [hd2]; simpa using e
                have hL2 : d2 < 16 := by omega
                have hL2' : (d2 : Int) < 16 := by omega
                have HD2 := Lib.hid hd2
                clear hd2
                obtain ⟨d3, hd3⟩ : ∃ d, d = R / 1 % 16 := ⟨_, rfl⟩
                have hD3 : bits .and .i32 ((R : Int)) 15 = (d3 : Int) := by
                  have e := Lib.and15_shift (R : Int) R rfl (by omega) 1
                  rw [hd3]; simpa using e
                have hL3 : d3 < 16 := by omega
                have hL3' : (d3 : Int) < 16 := by omega
                have HD3 := Lib.hid hd3
                clear hd3
                refine wp_loop_rounds 5 ?_
                rw [rounds_succ]
                go_wp2_with (at_builtin; first | (refine wpList_qb_byte rfl _ _ rfl _ rfl rfl rfl (by assumption) (by simp only [List.length_append, List.length_cons, List.length_nil, ints_len, size2]; omega) ?_; intro _ _ hq) | (refine wpList_qb_str rfl _ _ rfl _ rfl rfl (by assumption) (by simp only [List.length_append, List.length_cons, List.length_nil, ints_len, size2]; omega) ?_; intro _ _ hq))
                rw [rounds_succ]
                go_wp2_with (at_builtin; first | (refine wpList_qb_byte rfl _ _ rfl _ rfl rfl rfl (by assumption) (by simp only [List.length_append, List.length_cons, List.length_nil, ints_len, size2]; omega) ?_; intro _ _ hq) | (refine wpList_qb_str rfl _ _ rfl _ rfl rfl (by assumption) (by simp only [List.length_append, List.length_cons, List.length_nil, ints_len, size2]; omega) ?_; intro _ _ hq))
                rw [rounds_succ]
                go_wp2_with (at_builtin; first | (refine wpList_qb_byte rfl _ _ rfl _ rfl rfl rfl (by assumption) (by simp only [List.length_append, List.length_cons, List.length_nil, ints_len, size2]; omega) ?_; intro _ _ hq) | (refine wpList_qb_str rfl _ _ rfl _ rfl rfl (by assumption) (by simp only [List.length_append, List.length_cons, List.length_nil, ints_len, size2]; omega) ?_; intro _ _ hq))
                rw [rounds_succ]
                go_wp2_with (at_builtin; first | (refine wpList_qb_byte rfl _ _ rfl _ rfl rfl rfl (by assumption) (by simp only [List.length_append, List.length_cons, List.length_nil, ints_len, size2]; omega) ?_; intro _ _ hq) | (refine wpList_qb_str rfl _ _ rfl _ rfl rfl (by assumption) (by simp only [List.length_append, List.length_cons, List.length_nil, ints_len, size2]; omega) ?_; intro _ _ hq))
                rw [rounds_succ]
                go_wp2_with (at_builtin; first | (refine wpList_qb_byte rfl _ _ rfl _ rfl rfl rfl (by assumption) (by simp only [List.length_append, List.length_cons, List.length_nil, ints_len, size2]; omega) ?_; intro _ _ hq) | (refine wpList_qb_str rfl _ _ rfl _ rfl rfl (by assumption) (by simp only [List.length_append, List.length_cons, List.length_nil, ints_len, size2]; omega) ?_; intro _ _ hq))
                go_roundw
                case rel =>
                  refine ⟨_, acc ++ Lib.quoteStep T rest, f - 1, rfl, by omega, ?_, ?_, ?_⟩
                  · rw [HST.out]
                    simpa [Hid, ints, List.append_assoc, Lib.size_two, Lib.lowerhex_at, Lib.hexDigits, HD0.out, HD1.out, HD2.out, HD3.out] using hq
                  · show acc ++ Lib.quoteStep T rest ++ Lib.quoteFrom T (f - 1) (rest.extract K rest.size) = _
                    rw [← hqf.out, Lib.quoteFrom_step T f rest h0 hf, ← HK.out, List.append_assoc]
                  · have := Lib.quoteStep_length_le T rest
                    simp only [List.length_append]; omega
                case measure => simp only []; omega
              · have hdl : decide ((R : Int) < 65536) = false := by simp; omega
                have hst : Lib.quoteStep T rest = 92 :: 85 :: Lib.hexDigits R 8 := by
                  rw [hst0, Lib.escRune, if_neg (by omega), if_neg (by rw [hP]; simp), if_neg (by omega), if_neg (by omega), if_neg (by omega), if_neg (by omega), if_neg (by omega), if_neg (by omega), if_neg (by omega), if_neg (by omega), if_neg (by rw [HV.out]; simp), if_neg (by omega)]
                  simp
                have HST := Lib.hid hst
                clear hst0 hst
                go_wp2_with (first | (go_at_call 16; refine (decode_rest rest _ HTr.out.2 h0).mono ?_; rw [← HR.out, ← HK.out]; rintro e w1 ⟨rfl, hbl⟩; have hq := QB.below hq hbl; have HTr := Lib.hid (ptabs_below HTr.out hbl); clear hbl))
                refine (is_print _ _ (by omega) (by omega) HTr.out).mono ?_
                rw [hP]
                rintro e w2 ⟨rfl, hbp⟩
                have hq := QB.below hq hbp
                clear hbp hP HTr
                go_wp2_with (at_builtin; first | (refine wpList_qb_byte rfl _ _ rfl _ rfl rfl rfl (by assumption) (by simp only [List.length_append, List.length_cons, List.length_nil, ints_len, size2]; omega) ?_; intro _ _ hq) | (refine wpList_qb_str rfl _ _ rfl _ rfl rfl (by assumption) (by simp only [List.length_append, List.length_cons, List.length_nil, ints_len, size2]; omega) ?_; intro _ _ hq))
                clear hd32 b7 b8 b12 b10 b13 b9 b11 b127 hdm hdl
                obtain ⟨d0, hd0⟩ : ∃ d, d = R / 268435456 % 16 := ⟨_, rfl⟩
                have hD0 : bits .and .i32 (((R : Int) / 268435456)) 15 = (d0 : Int) := by
                  have e := Lib.and15_shift (R : Int) R rfl (by omega) 268435456
                  rw [hd0]; simpa using e
                have hL0 : d0 < 16 := by omega
                have hL0' : (d0 : Int) < 16 := by omega
                have HD0 := Lib.hid hd0
                clear hd0
                obtain ⟨d1, hd1⟩ : ∃ d, d = R / 16777216 % 16 := ⟨_, rfl⟩
                have hD1 : bits .and .i32 (((R : Int) / 16777216)) 15 = (d1 : Int) := by
                  have e := Lib.and15_shift (R : Int) R rfl (by omega) 16777216
                  rw [hd1]; simpa using e
                have hL1 : d1 < 16 := by omega
                have hL1' : (d1 : Int) < 16 := by omega
                have HD1 := Lib.hid hd1
                clear hd1
                obtain ⟨d2, hd2⟩ : ∃ d, d = R / 1048576 % 16 := ⟨_, rfl⟩
                have hD2 : bits .and .i32 (((R : Int) / 1048576)) 15 = (d2 : Int) := by
                  have e := Lib.and15_shift (R : Int) R rfl (by omega) 1048576
                  rw [hd2]; simpa using e
                have hL2 : d2 < 16 := by omega
                have hL2' : (d2 : Int) < 16 := by omega
                have HD2 := Lib.hid hd2
                clear hd2
                obtain ⟨d3, hd3⟩ : ∃ d, d = R / 65536 % 16 := ⟨_, rfl⟩
                have hD3 : bits .and .i32 (((R : Int) / 65536)) 15 = (d3 : Int) := by
                  have e := Lib.and15_shift (R : Int) R rfl (by omega) 65536
                  rw [hd3]; simpa using e
                have hL3 : d3 < 16 := by omega
                have hL3' : (d3 : Int) < 16 := by omega
                have HD3 := Lib.hid hd3
                clear hd3
                obtain ⟨d4, hd4⟩ : ∃ d, d = R / 4096 % 16 := ⟨_, rfl⟩
                have hD4 : bits .and .i32 (((R : Int) / 4096)) 15 = (d4 : Int) := by
                  have e := Lib.and15_shift (R : Int) R rfl (by omega) 4096
                  rw [hd4]; simpa using e
                have hL4 : d4 < 16 := by omega
                have hL4' : (d4 : Int) < 16 := by omega
                have HD4 := Lib.hid hd4
                clear hd4
                obtain ⟨d5, hd5⟩ : ∃ d, d = R / 256 % 16 := ⟨_, rfl⟩
                have hD5 : bits .and .i32 (((R : Int) / 256)) 15 = (d5 : Int) := by
                  have e := Lib.and15_shift (R : Int) R rfl (by omega) 256
                  rw [hd5]; simpa using e
                have hL5 : d5 < 16 := by omega
                have hL5' : (d5 : Int) < 16 := by omega
                have HD5 := Lib.hid hd5
                clear hd5
                obtain ⟨d6, hd6⟩ : ∃ d, d = R / 16 % 16 := ⟨_, rfl⟩
                have hD6 : bits .and .i32 (((R : Int) / 16)) 15 = (d6 : Int) := by
                  have e := Lib.and15_shift (R : Int) R rfl (by omega) 16
                  rw [hd6]; simpa using e
                have hL6 : d6 < 16 := by omega
                have hL6' : (d6 : Int) < 16 := by omega
                have HD6 := Lib.hid hd6
                clear hd6
                obtain ⟨d7, hd7⟩ : ∃ d, d = R / 1 % 16 := ⟨_, rfl⟩
                have hD7 : bits .and .i32 ((R : Int)) 15 = (d7 : Int) := by
                  have e := Lib.and15_shift (R : Int) R rfl (by omega) 1
                  rw [hd7]; simpa using e
                have hL7 : d7 < 16 := by omega
                have hL7' : (d7 : Int) < 16 := by omega
                have HD7 := Lib.hid hd7
                clear hd7
                refine wp_loop_rounds 9 ?_
                rw [rounds_succ]
                go_wp2_with (at_builtin; first | (refine wpList_qb_byte rfl _ _ rfl _ rfl rfl rfl (by assumption) (by simp only [List.length_append, List.length_cons, List.length_nil, ints_len, size2]; omega) ?_; intro _ _ hq) | (refine wpList_qb_str rfl _ _ rfl _ rfl rfl (by assumption) (by simp only [List.length_append, List.length_cons, List.length_nil, ints_len, size2]; omega) ?_; intro _ _ hq))
                rw [rounds_succ]
                go_wp2_with (at_builtin; first | (refine wpList_qb_byte rfl _ _ rfl _ rfl rfl rfl (by assumption) (by simp only [List.length_append, List.length_cons, List.length_nil, ints_len, size2]; omega) ?_; intro _ _ hq) | (refine wpList_qb_str rfl _ _ rfl _ rfl rfl (by assumption) (by simp only [List.length_append, List.length_cons, List.length_nil, ints_len, size2]; omega) ?_; intro _ _ hq))
                rw [rounds_succ]
                go_wp2_with (at_builtin; first | (refine wpList_qb_byte rfl _ _ rfl _ rfl rfl rfl (by assumption) (by simp only [List.length_append, List.length_cons, List.length_nil, ints_len, size2]; omega) ?_; intro _ _ hq) | (refine wpList_qb_str rfl _ _ rfl _ rfl rfl (by assumption) (by simp only [List.length_append, List.length_cons, List.length_nil, ints_len, size2]; omega) ?_; intro _ _ hq))
                rw [rounds_succ]
                go_wp2_with (at_builtin; first | (refine wpList_qb_byte rfl _ _ rfl _ rfl rfl rfl (by assumption) (by simp only [List.length_append, List.length_cons, List.length_nil, ints_len, size2]; omega) ?_; intro _ _ hq) | (refine wpList_qb_str rfl _ _ rfl _ rfl rfl (by assumption) (by simp only [List.length_append, List.length_cons, List.length_nil, ints_len, size2]; omega) ?_; intro _ _ hq))
                rw [rounds_succ]
                go_wp2_with (at_builtin; first | (refine wpList_qb_byte rfl _ _ rfl _ rfl rfl rfl (by assumption) (by simp only [List.length_append, List.length_cons, List.length_nil, ints_len, size2]; omega) ?_; intro _ _ hq) | (refine wpList_qb_str rfl _ _ rfl _ rfl rfl (by assumption) (by simp only [List.length_append, List.length_cons, List.length_nil, ints_len, size2]; omega) ?_; intro _ _ hq))
                rw [rounds_succ]
                go_wp2_with (at_builtin; first | (refine wpList_qb_byte rfl _ _ rfl _ rfl rfl rfl (by assumption) (by simp only [List.length_append, List.length_cons, List.length_nil, ints_len, size2]; omega) ?_; intro _ _ hq) | (refine wpList_qb_str rfl _ _ rfl _ rfl rfl (by assumption) (by simp only [List.length_append, List.length_cons, List.length_nil, ints_len, size2]; omega) ?_; intro _ _ hq))
                rw [rounds_succ]
                go_wp2_with (at_builtin; first | (refine wpList_qb_byte rfl _ _ rfl _ rfl rfl rfl (by assumption) (by simp only [List.length_append, List.length_cons, List.length_nil, ints_len, size2]; omega) ?_; intro _ _ hq) | (refine wpList_qb_str rfl _ _ rfl _ rfl rfl (by assumption) (by simp only [List.length_append, List.length_cons, List.length_nil, ints_len, size2]; omega) ?_; intro _ _ hq))
                rw [rounds_succ]
                go_wp2_with (at_builtin; first | (refine wpList_qb_byte rfl _ _ rfl _ rfl rfl rfl (by assumption) (by simp only [List.length_append, List.length_cons, List.length_nil, ints_len, size2]; omega) ?_; intro _ _ hq) | (refine wpList_qb_str rfl _ _ rfl _ rfl rfl (by assumption) (by simp only [List.length_append, List.length_cons, List.length_nil, ints_len, size2]; omega) ?_; intro _ _ hq))
                rw [rounds_succ]
                go_wp2_with (at_builtin; first | (refine wpList_qb_byte rfl _ _ rfl _ rfl rfl rfl (by assumption) (by simp only [List.length_append, List.length_cons, List.length_nil, ints_len, size2]; omega) ?_; intro _ _ hq) | (refine wpList_qb_str rfl _ _ rfl _ rfl rfl (by assumption) (by simp only [List.length_append, List.length_cons, List.length_nil, ints_len, size2]; omega) ?_; intro _ _ hq))
                go_roundw
                case rel =>
                  refine ⟨_, acc ++ Lib.quoteStep T rest, f - 1, rfl, by omega, ?_, ?_, ?_⟩
                  · rw [HST.out]
                    simpa [Hid, ints, List.append_assoc, Lib.size_two, Lib.lowerhex_at, Lib.hexDigits, HD0.out, HD1.out, HD2.out, HD3.out, HD4.out, HD5.out, HD6.out, HD7.out] using hq
                  · show acc ++ Lib.quoteStep T rest ++ Lib.quoteFrom T (f - 1) (rest.extract K rest.size) = _
                    rw [← hqf.out, Lib.quoteFrom_step T f rest h0 hf, ← HK.out, List.append_assoc]
                  · have := Lib.quoteStep_length_le T rest
                    simp only [List.length_append]; omega
                case measure => simp only []; omega
    · have h0' : ¬ (0 : Int) < (rest.size : Int) := by omega
      have hq := hqr.out
      go_wp2_with (at_builtin; first
      | (refine wpList_qb_byte rfl _ _ rfl _ rfl rfl rfl (by assumption) (by simp only [List.length_append, List.length_cons, List.length_nil, ints_len, size2]; omega) ?_; intro _ _ hq)
      | (refine wpList_qb_str rfl _ _ rfl _ rfl rfl (by assumption) (by simp only [List.length_append, List.length_cons, List.length_nil, ints_len, size2]; omega) ?_; intro _ _ hq))
      have hcv := run_text hq (by simp)
      rw [hcv]
      go_wp2
      go_ret
      have hqe : Lib.quoteFrom T s.size s = acc := by rw [← hqf.out, Lib.quoteFrom_end T f rest h0]; simp
      refine ⟨?_, hq.2.1⟩
      simp [Lib.quoteZ, hqe]
end Go.Proofs.YtkddmiamdpbgiaaDoor
