/- The reference's scanner: what stands between a literal's quotes, put out. -/
import Derived.Test.YtghendoiohfolaaGreatDoorScanPut
import Derived.Test.YtghendoiohfolaaGreatDoorUnqEscB
import Derived.Test.YtghendoiohfolaaGreatDoorSBuf
namespace Go.Proofs.YtghendoiohfolaaGreatDoor
set_option linter.unusedSimpArgs false
set_option linter.unusedVariables false
set_option linter.unnecessarySimpa false
open Go.RowKit
/-- What a body denotes; raw: itself. -/
def den (raw by_ : Bool) (l : List UInt8) : Option (List UInt8) := if raw then some l else unq by_ l
theorem den_nil (raw by_ : Bool) : den raw by_ [] = some [] := by cases raw <;> rfl
theorem den_one {raw by_ : Bool} {c : UInt8} {l : List UInt8} (h : raw = true ∨ c ≠ 92) : den raw by_ (c :: l) = (den raw by_ l).map (c :: ·) := by
  cases raw with
  | true => rfl
  | false => exact unq_plain by_ c l (by simpa using h)
theorem den_none {by_ : Bool} {l : List UInt8} (h : esc by_ (92 :: l) = none) : den false by_ (92 :: l) = none := unq_bad by_ l h
theorem den_some {by_ : Bool} {l p : List UInt8} {k : Nat} (h : esc by_ (92 :: l) = some (p, k)) : den false by_ (92 :: l) = (den false by_ ((92 :: l).drop k)).map (p ++ ·) := unq_good by_ l p k h
theorem enc_pos (r : Int) : 0 < (Lib.encodeRune r).length := by
  unfold Lib.encodeRune
  rw [List.length_map]
  exact (Lib.encodeRuneZ_length r).1
theorem codedP_ne {n size k : Nat} {one by_ : Bool} {p : List UInt8} (h : codedP n one by_ size = some (p, k)) : 0 < p.length ∧ p.length ≤ 4 := by
  unfold codedP at h
  split at h
  · split at h
    · simp at h
    · simp at h; rw [← h.1]; simp
  · split at h
    · simp at h
    · simp at h
      rw [← h.1]
      refine ⟨enc_pos _, ?_⟩
      unfold Lib.encodeRune
      rw [List.length_map]
      exact (Lib.encodeRuneZ_length _).2
theorem esc_ne {by_ : Bool} {l p : List UInt8} {k : Nat} (h : esc by_ l = some (p, k)) : 0 < p.length ∧ p.length ≤ 4 := by
  match l, h with
  | [], h => simp [esc] at h
  | [_], h => simp [esc] at h
  | b :: c :: t, h =>
    simp only [esc] at h
    split at h
    · simp at h; rw [← h.1]; simp
    split at h
    · split at h
      · simp at h
      split at h
      · simp at h
      exact codedP_ne h
    split at h
    · split at h
      · simp at h
      split at h
      · simp at h
      exact codedP_ne h
    split at h
    · split at h
      · simp at h
      split at h
      · simp at h
      exact codedP_ne h
    split at h
    · simp at h
    · exact codedP_ne h
/-- out = append(out, part...), both owned. -/
theorem wpList_append_part {ops : Array Oper} {rest : List Oper} {o : Oper} {a : Act} {Q : Exit → Act → World → Prop} {w : World} (hgd : o.guard = none) (s x : Operand)
    (ho : o.op = .call { callee := .builtin .append, args := #[s, x], argTypes := #[24, 24] })
    {B B2 : Nat} {v t : Value} {xs ys : List UInt8} (hv : OwnB 5 w B v xs) (ht : OwnB 5 w B2 t ys) (hy : 0 < ys.length) (hx : a.eval x = t) (hs : a.eval s = v) (hlen : xs.length + ys.length ≤ 1000000) (hB : B ≤ w.heap.size)
    (h : ∀ v' w', OwnB 5 w' B v' (xs ++ ys) → Below B w w' → wpList Tryz.prog ops Q rest (a.put o.dst v') w') : wpList Tryz.prog ops Q (o :: rest) a w := by
  obtain ⟨i0, hi, hz0, hz1, hz2⟩ := info_parts Tryz.infoB
  rcases ht.2 with ⟨_, h0⟩ | ⟨g, cap, cur, rfl, _⟩
  · omega
  refine wpList_append_own _ hgd s x 24 ho B 5 i0 _ 1 1 Tryz.underlying24 hi hz0 hz1 hz2 rfl (by decide) v _ _ hs hv ⟨g, 0, none⟩ ys.length cap (ys.map fun c => Value.int .u8 (c.toNat : Int)) hx (by simp) (fun j u hj => ht.cells (g := g) rfl j u hj) ?_ (by unfold maxLen; omega) (by omega) hB ?_
  · intro u hu
    simp only [List.mem_map] at hu
    obtain ⟨x, _, rfl⟩ := hu
    rfl
  · intro v' w' h1 hg _
    refine h v' w' ?_ ((Below.refl B w).grown hg hB fun k hk => (hv.lt k hk).1)
    unfold OwnB
    rw [List.map_append, List.length_append]
    exact h1
def ValPost (X B : Nat) (s : ByteArray) (a n : Nat) (raw by_ bg : Bool) (bk ov : Value) (m : Nat) (xs : List Value) (t : List UInt8) (w : World) (e : Ending) (w' : World) : Prop :=
  e = .returned (.tuple #[]) ∧ Only (fun k => k = X ∨ ov.ownBlock = some k) w w' ∧
  ((den raw by_ t = none ∧ ∃ l c, Sc w' X s a l c bg bk ov 1) ∨
   (∃ T l c el ec ov', den raw by_ t = some T ∧ Sc w' X s ((a + n : Nat) : Int) el ec bg bk ov' 2 ∧ Outs w' B ov' (m + 1) (xs ++ pieceC (if by_ then 9 else 8) (s.extract a (a + n)) (if by_ then 5 else 4) ⟨T.toArray⟩ l c el ec)))
theorem map_app {o : Option (List UInt8)} {a b : List UInt8} : (o.map (b ++ ·)).map (a ++ ·) = o.map ((a ++ b) ++ ·) := by cases o <;> simp
theorem map_cons {o : Option (List UInt8)} {a : List UInt8} {c : UInt8} : (o.map (c :: ·)).map (a ++ ·) = o.map ((a ++ [c]) ++ ·) := by cases o <;> simp
def ValI (t : ByteArray) (raw by_ : Bool) (w1 : World) (ov iv : Value) (wr : World) : Prop :=
  ∃ (k : Nat) (acc : List UInt8), k ≤ t.size ∧ iv = .int .i64 k ∧ acc.length ≤ 4 * k ∧ Hid (OwnB 5 wr w1.heap.size ov acc) ∧ Hid (Below w1.heap.size w1 wr) ∧ Hid (den raw by_ t.data.toList = (den raw by_ (t.data.toList.drop k)).map (acc ++ ·))
theorem ext_data (s : ByteArray) (i : Nat) : (s.extract i s.size).data.toList = s.data.toList.drop i := by
  rw [extract_list, take_all s s.size (Nat.le_refl _)]
set_option maxRecDepth 20000 in
set_option maxHeartbeats 4000000 in
theorem value_false {w : World} {X B : Nat} {s t : ByteArray} {ln cl : Int} {bg raw : Bool} {bk ov : Value} (a n m : Nat) (xs : List Value) (h : Sc w X s a ln cl bg bk ov 2) (ho : Outs w B ov m xs) (hBw : B ≤ w.heap.size) (hm : m ≤ 1000) (hs : s.size ≤ 100000) (ha : a + n ≤ s.size) (ht : t.size ≤ 2000) (hp : PlainL t.data.toList) :
    Calls Tryz.prog 51 #[.pointer (some ⟨X, 0, none⟩), .string t, .bool raw, .bool false, .int .i64 n] w (ValPost X B s a n raw false bg bk ov m xs t.data.toList w) := by
  have HS := Lib.hid h
  have HO := Lib.hid ho
  have HBW := Lib.hid hBw
  have HP := Lib.hid hp
  have hXl := h.lt
  have HTL : Hid (t.data.toList.length = t.size) := by unfold Hid; simp
  clear h ho hBw hp
  obtain ⟨i0, hi, hz0, hz1, hz2⟩ := info_parts Tryz.infoB
  have HI := Lib.hid hi
  have HZ0 := Lib.hid hz0
  have HZ1 := Lib.hid hz1
  have HZ2 := Lib.hid hz2
  clear hi hz0 hz1 hz2
  obtain ⟨w1, hw1⟩ : ∃ w1, w1 = w.alloc (.cells #[.int .i64 4, .bool false, .slice none 0 0, .int .u64 0, .string ⟨#[]⟩, .slice none 0 0] 28) := ⟨_, rfl⟩
  obtain ⟨V, hV⟩ : ∃ V, V = w.heap.size := ⟨_, rfl⟩
  have HSC1 : Hid (Sc w1 X s a ln cl bg bk ov 2) := by rw [hw1]; exact HS.out.alloc _
  have HO1 : Hid (Outs w1 B ov m xs) := by rw [hw1]; exact World.ownsRow.alloc HO.out _
  have HB1 : Hid (Below w.heap.size w w1) := by rw [hw1]; exact (Below.refl _ _).alloc (Nat.le_refl _) _
  have HV1 : Hid (Blk w1 V 28 #[.int .i64 4, .bool false, .slice none 0 0, .int .u64 0, .string ⟨#[]⟩, .slice none 0 0]) := by rw [hw1, hV]; exact Blk.new w _ _
  have HL1 : Hid (w1.heap.size = w.heap.size + 1) := by rw [hw1]; unfold Hid; simp
  have HVw := Lib.hid hV
  have hXV : X ≠ V := by omega
  have hX1 : X < w1.heap.size := HSC1.out.lt
  have hV1 : V < w1.heap.size := HV1.out.lt
  go_enter Tryz.func51, Tryz.ntmps51
  go_wp2_with fail
  rw [← hw1]
  first | rw [← hV] | skip
  clear hw1 hV
  go_loopw [12, 13, 14, 15] (fun ov iv _ _ wr => ValI t raw false w1 ov iv wr) (fun _ iv _ _ _ => t.size - (intOf iv).toNat)
  case atStart => exact ⟨0, [], Nat.zero_le _, rfl, by simp, OwnB.nil _ _, Below.refl _ _, by simp [Hid]⟩
  case round =>
    obtain ⟨k, acc, hk, rfl, hal, how, hbe, hde⟩ := hrel
    obtain ⟨wo, rfl⟩ : ∃ wo : World, wo = wr := ⟨_, rfl⟩
    have hzo := hbe.out.size
    by_cases hlt : k < t.size
    · have hd : t.data.toList.drop k = t[k] :: t.data.toList.drop (k + 1) := drop_cons t k hlt
      have hg1 : (k : Int) < (t.size : Int) := by omega
      by_cases hc : raw = true ∨ t[k] ≠ 92
      · have hde2 : Hid (den raw false t.data.toList = (den raw false (t.data.toList.drop (k + 1))).map ((acc ++ [t[k]]) ++ ·)) := by
          unfold Hid
          rw [hde.out, hd, den_one hc, map_cons]
        have hcc : raw = true ∨ (raw = false ∧ (((t[k]).toNat : Int) != 92) = true) := by
          rcases hc with h | h
          · exact .inl h
          · cases raw with
            | true => exact .inl rfl
            | false =>
              refine .inr ⟨rfl, ?_⟩
              rw [bne_iff_ne]
              exact fun e => h (UInt8.toNat_inj.1 (Int.ofNat_inj.1 e))
        clear hd hc hde
        have OW := how.out
        unfold OwnB at OW
        have HOW := Lib.hid OW
        clear OW how
        rcases hcc with rfl | ⟨rfl, hcn⟩
        all_goals
          go_wp2_with (at_builtin; refine wpList_append_one rfl (.tmp 30) (.tmp 34) 24 rfl wo w1.heap.size 5 i0 _ 1 Tryz.underlying24 HI.out HZ0.out HZ1.out HZ2.out rfl _ acc.length _ HOW.out rfl (.int .u8 ((t[k]).toNat : Int)) rfl rfl rfl (by unfold maxLen; omega) (by omega) hzo ?_; intro v2 w2 hown2 hb2 _; have HOWN2 := Lib.hid (OwnB.more hown2); have HBE2 := Lib.hid (hbe.out.trans hb2); clear hown2 hb2)
          go_roundw
          case rel => exact ⟨k + 1, acc ++ [t[k]], by omega, by go_num, by simp; omega, HOWN2, HBE2, hde2⟩
          case measure => simp [intOf]; omega
      · simp only [not_or, Classical.not_not] at hc
        obtain ⟨hraw, hc92⟩ := hc
        have hrf : raw = false := by simpa using hraw
        subst hrf
        have hcn : (((t[k]).toNat : Int) != 92) = false := by rw [hc92]; rfl
        have HC92 := Lib.hid hc92
        have HDK := Lib.hid hd
        have hPL : PlainL (t.extract k t.size).data.toList := by
          rw [ext_data]
          exact fun c hc => HP.out c (List.mem_of_mem_drop hc)
        have HSCo : Hid (Sc wo X s a ln cl bg bk ov 2) := Blk.below HSC1.out hbe.out hX1
        have hk2 : k ≤ t.size := by omega
        have HE := Lib.hid (esc_any (t.extract k t.size) false wo (by simp; omega) hPL)
        have hED : (t.extract k t.size).data.toList = 92 :: t.data.toList.drop (k + 1) := by rw [ext_data, hd, hc92]
        rw [hED] at HE
        clear hd hc92 hraw hPL hED
        go_wp2_with fail
        refine HE.out.mono ?_
        rintro e w2 (⟨hn, rfl, hb2⟩ | ⟨p, kk, v, hn, rfl, ho2, hb2⟩)
        · have HN : Hid (den false false t.data.toList = none) := by
            unfold Hid
            rw [hde.out, HDK.out, HC92.out, den_none hn]
            rfl
          have HB2 : Hid (Below w.heap.size w w2) := HB1.out.trans ((hbe.out.trans (hb2.mono hzo)).mono (by have := HL1.out; omega))
          have HSC2 : Hid (Sc w2 X s a ln cl bg bk ov 2) := HSCo.out.below hb2
          obtain ⟨-, -, -, -, -, -, -, -, d8⟩ := HSC2.out.cells
          have f8 := HSC2.out.fz 8
          clear hn hb2
          go_wp2
          refine bodyPost_ret (results_none rfl _ _ _) rfl ?_
          exact ⟨rfl, ((Only.of_below HB2.out)).setCell (p := ⟨X, 8, none⟩) (.inl (.inl rfl)) _, .inl ⟨HN.out, ln, cl, HSC2.out.put8 _⟩⟩
        · have hkk := esc_take hn
          have hpn := esc_ne hn
          have hkl : 92 :: t.data.toList.drop (k + 1) = t.data.toList.drop k := by rw [HDK.out, HC92.out]
          have hkk2 : k + kk ≤ t.size := by
            have h := hkk.2
            rw [hkl, List.length_drop, HTL.out] at h
            omega
          have hkk1 : 1 ≤ kk := hkk.1
          have hde2 : Hid (den false false t.data.toList = (den false false (t.data.toList.drop (k + kk))).map ((acc ++ p) ++ ·)) := by
            unfold Hid
            rw [hde.out, HDK.out, HC92.out, den_some hn, map_app, hkl, List.drop_drop]
          have hkz : ((kk : Int) == 0) = false := by rw [beq_eq_false_iff_ne]; omega
          have HO2 := Lib.hid ho2
          have HOA := Lib.hid (own_below how.out hb2)
          have HB2 := Lib.hid (hbe.out.trans (hb2.mono hzo))
          have hz2 := HB2.out.size
          have hpn1 := hpn.1
          have hpn2 := hpn.2
          have hal2 : acc.length + p.length ≤ 1000000 := by omega
          clear hn hb2 hkl hkk hpn ho2 hde
          go_wp2_with (at_builtin; refine wpList_append_part rfl (.tmp 51) (.tmp 52) rfl HOA.out HO2.out hpn1 rfl rfl hal2 hz2 ?_; intro v3 w3 hown3 hb3; have HOWN3 := Lib.hid hown3; have HBE3 := Lib.hid (HB2.out.trans hb3); clear hown3 hb3)
          go_roundw
          case rel => exact ⟨k + kk, acc ++ p, hkk2, by go_num, by rw [List.length_append]; omega, HOWN3, HBE3, hde2⟩
          case measure => simp [intOf]; omega
    · have hke : k = t.size := by omega
      have HDEN : Hid (den raw false t.data.toList = some acc) := by
        unfold Hid
        rw [hde.out, List.drop_eq_nil_of_le (by rw [HTL.out]; omega), den_nil]
        simp
      have hconv := how.out.text 24 9 Tryz.underlying24 Tryz.underlying5 Tryz.underlying9
      have HVo : Hid (Blk wo V 28 #[.int .i64 4, .bool false, .slice none 0 0, .int .u64 0, .string ⟨#[]⟩, .slice none 0 0]) := Blk.below HV1.out hbe.out hV1
      have HSCo : Hid (Sc wo X s a ln cl bg bk ov 2) := Blk.below HSC1.out hbe.out hX1
      have HOo : Hid (Outs wo B ov m xs) := own_below HO1.out hbe.out
      have v0 : wo.cell? ⟨V, 0, none⟩ = some (.int .i64 4) := by rw [HVo.out.cell 0]; rfl
      have v1 : wo.cell? ⟨V, 1, none⟩ = some (.bool false) := by rw [HVo.out.cell 1]; rfl
      have v2 : wo.cell? ⟨V, 2, none⟩ = some (.slice none 0 0) := by rw [HVo.out.cell 2]; rfl
      have v3 : wo.cell? ⟨V, 3, none⟩ = some (.int .u64 0) := by rw [HVo.out.cell 3]; rfl
      have v4 : wo.cell? ⟨V, 4, none⟩ = some (.string ⟨#[]⟩) := by rw [HVo.out.cell 4]; rfl
      have v5 : wo.cell? ⟨V, 5, none⟩ = some (.slice none 0 0) := by rw [HVo.out.cell 5]; rfl
      have vf := HVo.out.frozen 4
      obtain ⟨tt, htt⟩ : ∃ tt : ByteArray, tt = ⟨acc.toArray⟩ := ⟨_, rfl⟩
      rw [← htt] at hconv
      have HTT := Lib.hid htt
      clear htt hde how hlt
      go_wp2_with fail
      have HSC4 : Hid (Sc (wo.setCell ⟨V, 4, none⟩ (.string tt)) X s a ln cl bg bk ov 2) := HSCo.out.far (p := ⟨V, 4, none⟩) hXV _
      have HO4 : Hid (Outs (wo.setCell ⟨V, 4, none⟩ (.string tt)) B ov m xs) := own_only HOo.out ((Only.refl (· = V) wo).setCell (p := ⟨V, 4, none⟩) (.inl rfl) _) (fun g hg e => by have := (HO.out.lt g hg).2; have := HVw.out; omega)
      have HON4 : Hid (Only (fun k => k = X ∨ ov.ownBlock = some k) w (wo.setCell ⟨V, 4, none⟩ (.string tt))) := (Only.of_below (HB1.out.trans (hbe.out.mono (by have := HL1.out; omega)))).setCell (p := ⟨V, 4, none⟩) (.inr (by have := HVw.out; show w.heap.size ≤ V; omega)) _
      refine (put_any a n m xs 8 4 tt HSC4.out HO4.out (by have := HB1.out.size; have := HBW.out; simp; omega) hm hs ha).mono ?_
      rintro e w5 ⟨rfl, l, c, el, ec, ov', hsc5, ho5, hon5⟩
      have HON5 : Hid (Only (fun k => k = X ∨ ov.ownBlock = some k) w w5) := by
        have h4 := HON4.out
        exact ⟨hon5.os.trans h4.os, hon5.tape.trans h4.tape, hon5.output.trans h4.output, Nat.le_trans h4.size hon5.size, fun i hi hs => (hon5.block i (Nat.lt_of_lt_of_le hi h4.size) hs).trans (h4.block i hi hs)⟩
      have HSC5 := Lib.hid hsc5
      have HO5 := Lib.hid ho5
      clear hsc5 ho5 hon5
      go_wp2
      go_end0
      refine ⟨rfl, HON5.out, .inr ⟨acc, l, c, el, ec, ov', HDEN.out, HSC5.out, ?_⟩⟩
      rw [← HTT.out]
      exact HO5.out
set_option maxRecDepth 20000 in
set_option maxHeartbeats 4000000 in
theorem value_true {w : World} {X B : Nat} {s t : ByteArray} {ln cl : Int} {bg raw : Bool} {bk ov : Value} (a n m : Nat) (xs : List Value) (h : Sc w X s a ln cl bg bk ov 2) (ho : Outs w B ov m xs) (hBw : B ≤ w.heap.size) (hm : m ≤ 1000) (hs : s.size ≤ 100000) (ha : a + n ≤ s.size) (ht : t.size ≤ 2000) (hp : PlainL t.data.toList) :
    Calls Tryz.prog 51 #[.pointer (some ⟨X, 0, none⟩), .string t, .bool raw, .bool true, .int .i64 n] w (ValPost X B s a n raw true bg bk ov m xs t.data.toList w) := by
  have HS := Lib.hid h
  have HO := Lib.hid ho
  have HBW := Lib.hid hBw
  have HP := Lib.hid hp
  have hXl := h.lt
  have HTL : Hid (t.data.toList.length = t.size) := by unfold Hid; simp
  clear h ho hBw hp
  obtain ⟨i0, hi, hz0, hz1, hz2⟩ := info_parts Tryz.infoB
  have HI := Lib.hid hi
  have HZ0 := Lib.hid hz0
  have HZ1 := Lib.hid hz1
  have HZ2 := Lib.hid hz2
  clear hi hz0 hz1 hz2
  obtain ⟨w1, hw1⟩ : ∃ w1, w1 = w.alloc (.cells #[.int .i64 5, .bool false, .slice none 0 0, .int .u64 0, .string ⟨#[]⟩, .slice none 0 0] 28) := ⟨_, rfl⟩
  obtain ⟨V, hV⟩ : ∃ V, V = w.heap.size := ⟨_, rfl⟩
  have HSC1 : Hid (Sc w1 X s a ln cl bg bk ov 2) := by rw [hw1]; exact HS.out.alloc _
  have HO1 : Hid (Outs w1 B ov m xs) := by rw [hw1]; exact World.ownsRow.alloc HO.out _
  have HB1 : Hid (Below w.heap.size w w1) := by rw [hw1]; exact (Below.refl _ _).alloc (Nat.le_refl _) _
  have HV1 : Hid (Blk w1 V 28 #[.int .i64 5, .bool false, .slice none 0 0, .int .u64 0, .string ⟨#[]⟩, .slice none 0 0]) := by rw [hw1, hV]; exact Blk.new w _ _
  have HL1 : Hid (w1.heap.size = w.heap.size + 1) := by rw [hw1]; unfold Hid; simp
  have HVw := Lib.hid hV
  have hXV : X ≠ V := by omega
  have hX1 : X < w1.heap.size := HSC1.out.lt
  have hV1 : V < w1.heap.size := HV1.out.lt
  go_enter Tryz.func51, Tryz.ntmps51
  go_wp2_with fail
  rw [← hw1]
  first | rw [← hV] | skip
  clear hw1 hV
  go_loopw [12, 13, 14, 15] (fun ov iv _ _ wr => ValI t raw true w1 ov iv wr) (fun _ iv _ _ _ => t.size - (intOf iv).toNat)
  case atStart => exact ⟨0, [], Nat.zero_le _, rfl, by simp, OwnB.nil _ _, Below.refl _ _, by simp [Hid]⟩
  case round =>
    obtain ⟨k, acc, hk, rfl, hal, how, hbe, hde⟩ := hrel
    obtain ⟨wo, rfl⟩ : ∃ wo : World, wo = wr := ⟨_, rfl⟩
    have hzo := hbe.out.size
    by_cases hlt : k < t.size
    · have hd : t.data.toList.drop k = t[k] :: t.data.toList.drop (k + 1) := drop_cons t k hlt
      have hg1 : (k : Int) < (t.size : Int) := by omega
      by_cases hc : raw = true ∨ t[k] ≠ 92
      · have hde2 : Hid (den raw true t.data.toList = (den raw true (t.data.toList.drop (k + 1))).map ((acc ++ [t[k]]) ++ ·)) := by
          unfold Hid
          rw [hde.out, hd, den_one hc, map_cons]
        have hcc : raw = true ∨ (raw = false ∧ (((t[k]).toNat : Int) != 92) = true) := by
          rcases hc with h | h
          · exact .inl h
          · cases raw with
            | true => exact .inl rfl
            | false =>
              refine .inr ⟨rfl, ?_⟩
              rw [bne_iff_ne]
              exact fun e => h (UInt8.toNat_inj.1 (Int.ofNat_inj.1 e))
        clear hd hc hde
        have OW := how.out
        unfold OwnB at OW
        have HOW := Lib.hid OW
        clear OW how
        rcases hcc with rfl | ⟨rfl, hcn⟩
        all_goals
          go_wp2_with (at_builtin; refine wpList_append_one rfl (.tmp 30) (.tmp 34) 24 rfl wo w1.heap.size 5 i0 _ 1 Tryz.underlying24 HI.out HZ0.out HZ1.out HZ2.out rfl _ acc.length _ HOW.out rfl (.int .u8 ((t[k]).toNat : Int)) rfl rfl rfl (by unfold maxLen; omega) (by omega) hzo ?_; intro v2 w2 hown2 hb2 _; have HOWN2 := Lib.hid (OwnB.more hown2); have HBE2 := Lib.hid (hbe.out.trans hb2); clear hown2 hb2)
          go_roundw
          case rel => exact ⟨k + 1, acc ++ [t[k]], by omega, by go_num, by simp; omega, HOWN2, HBE2, hde2⟩
          case measure => simp [intOf]; omega
      · simp only [not_or, Classical.not_not] at hc
        obtain ⟨hraw, hc92⟩ := hc
        have hrf : raw = false := by simpa using hraw
        subst hrf
        have hcn : (((t[k]).toNat : Int) != 92) = false := by rw [hc92]; rfl
        have HC92 := Lib.hid hc92
        have HDK := Lib.hid hd
        have hPL : PlainL (t.extract k t.size).data.toList := by
          rw [ext_data]
          exact fun c hc => HP.out c (List.mem_of_mem_drop hc)
        have HSCo : Hid (Sc wo X s a ln cl bg bk ov 2) := Blk.below HSC1.out hbe.out hX1
        have hk2 : k ≤ t.size := by omega
        have HE := Lib.hid (esc_any (t.extract k t.size) true wo (by simp; omega) hPL)
        have hED : (t.extract k t.size).data.toList = 92 :: t.data.toList.drop (k + 1) := by rw [ext_data, hd, hc92]
        rw [hED] at HE
        clear hd hc92 hraw hPL hED
        go_wp2_with fail
        refine HE.out.mono ?_
        rintro e w2 (⟨hn, rfl, hb2⟩ | ⟨p, kk, v, hn, rfl, ho2, hb2⟩)
        · have HN : Hid (den false true t.data.toList = none) := by
            unfold Hid
            rw [hde.out, HDK.out, HC92.out, den_none hn]
            rfl
          have HB2 : Hid (Below w.heap.size w w2) := HB1.out.trans ((hbe.out.trans (hb2.mono hzo)).mono (by have := HL1.out; omega))
          have HSC2 : Hid (Sc w2 X s a ln cl bg bk ov 2) := HSCo.out.below hb2
          obtain ⟨-, -, -, -, -, -, -, -, d8⟩ := HSC2.out.cells
          have f8 := HSC2.out.fz 8
          clear hn hb2
          go_wp2
          refine bodyPost_ret (results_none rfl _ _ _) rfl ?_
          exact ⟨rfl, ((Only.of_below HB2.out)).setCell (p := ⟨X, 8, none⟩) (.inl (.inl rfl)) _, .inl ⟨HN.out, ln, cl, HSC2.out.put8 _⟩⟩
        · have hkk := esc_take hn
          have hpn := esc_ne hn
          have hkl : 92 :: t.data.toList.drop (k + 1) = t.data.toList.drop k := by rw [HDK.out, HC92.out]
          have hkk2 : k + kk ≤ t.size := by
            have h := hkk.2
            rw [hkl, List.length_drop, HTL.out] at h
            omega
          have hkk1 : 1 ≤ kk := hkk.1
          have hde2 : Hid (den false true t.data.toList = (den false true (t.data.toList.drop (k + kk))).map ((acc ++ p) ++ ·)) := by
            unfold Hid
            rw [hde.out, HDK.out, HC92.out, den_some hn, map_app, hkl, List.drop_drop]
          have hkz : ((kk : Int) == 0) = false := by rw [beq_eq_false_iff_ne]; omega
          have HO2 := Lib.hid ho2
          have HOA := Lib.hid (own_below how.out hb2)
          have HB2 := Lib.hid (hbe.out.trans (hb2.mono hzo))
          have hz2 := HB2.out.size
          have hpn1 := hpn.1
          have hpn2 := hpn.2
          have hal2 : acc.length + p.length ≤ 1000000 := by omega
          clear hn hb2 hkl hkk hpn ho2 hde
          go_wp2_with (at_builtin; refine wpList_append_part rfl (.tmp 51) (.tmp 52) rfl HOA.out HO2.out hpn1 rfl rfl hal2 hz2 ?_; intro v3 w3 hown3 hb3; have HOWN3 := Lib.hid hown3; have HBE3 := Lib.hid (HB2.out.trans hb3); clear hown3 hb3)
          go_roundw
          case rel => exact ⟨k + kk, acc ++ p, hkk2, by go_num, by rw [List.length_append]; omega, HOWN3, HBE3, hde2⟩
          case measure => simp [intOf]; omega
    · have hke : k = t.size := by omega
      have HDEN : Hid (den raw true t.data.toList = some acc) := by
        unfold Hid
        rw [hde.out, List.drop_eq_nil_of_le (by rw [HTL.out]; omega), den_nil]
        simp
      have hconv := how.out.text 24 9 Tryz.underlying24 Tryz.underlying5 Tryz.underlying9
      have HVo : Hid (Blk wo V 28 #[.int .i64 5, .bool false, .slice none 0 0, .int .u64 0, .string ⟨#[]⟩, .slice none 0 0]) := Blk.below HV1.out hbe.out hV1
      have HSCo : Hid (Sc wo X s a ln cl bg bk ov 2) := Blk.below HSC1.out hbe.out hX1
      have HOo : Hid (Outs wo B ov m xs) := own_below HO1.out hbe.out
      have v0 : wo.cell? ⟨V, 0, none⟩ = some (.int .i64 5) := by rw [HVo.out.cell 0]; rfl
      have v1 : wo.cell? ⟨V, 1, none⟩ = some (.bool false) := by rw [HVo.out.cell 1]; rfl
      have v2 : wo.cell? ⟨V, 2, none⟩ = some (.slice none 0 0) := by rw [HVo.out.cell 2]; rfl
      have v3 : wo.cell? ⟨V, 3, none⟩ = some (.int .u64 0) := by rw [HVo.out.cell 3]; rfl
      have v4 : wo.cell? ⟨V, 4, none⟩ = some (.string ⟨#[]⟩) := by rw [HVo.out.cell 4]; rfl
      have v5 : wo.cell? ⟨V, 5, none⟩ = some (.slice none 0 0) := by rw [HVo.out.cell 5]; rfl
      have vf := HVo.out.frozen 4
      obtain ⟨tt, htt⟩ : ∃ tt : ByteArray, tt = ⟨acc.toArray⟩ := ⟨_, rfl⟩
      rw [← htt] at hconv
      have HTT := Lib.hid htt
      clear htt hde how hlt
      go_wp2_with fail
      have HSC4 : Hid (Sc (wo.setCell ⟨V, 4, none⟩ (.string tt)) X s a ln cl bg bk ov 2) := HSCo.out.far (p := ⟨V, 4, none⟩) hXV _
      have HO4 : Hid (Outs (wo.setCell ⟨V, 4, none⟩ (.string tt)) B ov m xs) := own_only HOo.out ((Only.refl (· = V) wo).setCell (p := ⟨V, 4, none⟩) (.inl rfl) _) (fun g hg e => by have := (HO.out.lt g hg).2; have := HVw.out; omega)
      have HON4 : Hid (Only (fun k => k = X ∨ ov.ownBlock = some k) w (wo.setCell ⟨V, 4, none⟩ (.string tt))) := (Only.of_below (HB1.out.trans (hbe.out.mono (by have := HL1.out; omega)))).setCell (p := ⟨V, 4, none⟩) (.inr (by have := HVw.out; show w.heap.size ≤ V; omega)) _
      refine (put_any a n m xs 9 5 tt HSC4.out HO4.out (by have := HB1.out.size; have := HBW.out; simp; omega) hm hs ha).mono ?_
      rintro e w5 ⟨rfl, l, c, el, ec, ov', hsc5, ho5, hon5⟩
      have HON5 : Hid (Only (fun k => k = X ∨ ov.ownBlock = some k) w w5) := by
        have h4 := HON4.out
        exact ⟨hon5.os.trans h4.os, hon5.tape.trans h4.tape, hon5.output.trans h4.output, Nat.le_trans h4.size hon5.size, fun i hi hs => (hon5.block i (Nat.lt_of_lt_of_le hi h4.size) hs).trans (h4.block i hi hs)⟩
      have HSC5 := Lib.hid hsc5
      have HO5 := Lib.hid ho5
      clear hsc5 ho5 hon5
      go_wp2
      go_end0
      refine ⟨rfl, HON5.out, .inr ⟨acc, l, c, el, ec, ov', HDEN.out, HSC5.out, ?_⟩⟩
      rw [← HTT.out]
      exact HO5.out
theorem value_any {w : World} {X B : Nat} {s t : ByteArray} {ln cl : Int} {bg raw by_ : Bool} {bk ov : Value} (a n m : Nat) (xs : List Value) (h : Sc w X s a ln cl bg bk ov 2) (ho : Outs w B ov m xs) (hBw : B ≤ w.heap.size) (hm : m ≤ 1000) (hs : s.size ≤ 100000) (ha : a + n ≤ s.size) (ht : t.size ≤ 2000) (hp : PlainL t.data.toList) :
    Calls Tryz.prog 51 #[.pointer (some ⟨X, 0, none⟩), .string t, .bool raw, .bool by_, .int .i64 n] w (ValPost X B s a n raw by_ bg bk ov m xs t.data.toList w) := by
  cases by_ with
  | false => exact value_false a n m xs h ho hBw hm hs ha ht hp
  | true => exact value_true a n m xs h ho hBw hm hs ha ht hp
end Go.Proofs.YtghendoiohfolaaGreatDoor
