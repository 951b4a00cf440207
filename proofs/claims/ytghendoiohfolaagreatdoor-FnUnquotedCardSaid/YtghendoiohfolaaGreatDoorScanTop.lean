/- The reference's scanner over a literal's text, whole. -/
import Derived.Test.YtghendoiohfolaaGreatDoorScanDeepB
namespace Go.Proofs.YtghendoiohfolaaGreatDoor
set_option linter.unusedSimpArgs false
set_option linter.unusedVariables false
set_option linter.unnecessarySimpa false
open Go.RowKit
/-- Why it is left open. -/
def OpenWhy (t : ByteArray) (by_ : Bool) (B : List UInt8) : Prop := (plainB t.data.toList && Lib.validD t.data.toList) = false ∨ (by_ = true ∧ ∃ c ∈ B, 128 ≤ c.toNat)
def FScanPost (t : ByteArray) (raw by_ : Bool) (B : List UInt8) (w : World) (e : Ending) (w' : World) : Prop :=
  Below w.heap.size w w' ∧
  ((OpenWhy t by_ B ∧ ∃ v b, e = .returned (.tuple #[v, .int .i64 0, .bool b])) ∨
   (plainB t.data.toList = true ∧ den raw by_ B = none ∧ ∃ v b, e = .returned (.tuple #[v, .int .i64 1, .bool b])) ∨
   (plainB t.data.toList = true ∧ ∃ T, den raw by_ B = some T ∧ ∃ g cap b, e = .returned (.tuple #[.slice (some ⟨g, 0, none⟩) 3 cap, .int .i64 2, .bool b]) ∧
     ∃ l c el ec r1 a1 a2 a3 a4 a5 r2 b1 b2 b3 b4 b5 t1 t2, Outs w' w.heap.size (.slice (some ⟨g, 0, none⟩) 3 cap) 3 ((pieceC (if by_ then 9 else 8) t (if by_ then 5 else 4) ⟨T.toArray⟩ l c el ec) ++ (pieceC 2 r1 a1 t1 a2 a3 a4 a5) ++ (pieceC 1 r2 b1 t2 b2 b3 b4 b5))))
theorem ext_front (t : ByteArray) (u : ByteArray) : (t ++ u).extract 0 t.size = t := by
  apply ByteArray.ext
  simp
theorem only_below {S : Nat → Prop} {w w2 w3 : World} (hb : Below w.heap.size w w2) (ho : Only S w2 w3) (hS : ∀ k, S k → w.heap.size ≤ k) : Below w.heap.size w w3 := hb.trans (ho.to_below hb.size (fun k _ h => hS k h))
theorem next_first {w : World} {X B0 : Nat} {s : ByteArray} {ln cl : Int} {bg : Bool} {bk ov : Value} (wd : Nat) (hwd : wd = 1 ∨ wd = 3) (a B : List UInt8) (q : UInt8) (m : Nat) (xs : List Value) (h : Sc w X s 0 ln cl bg bk ov 2) (ho : Outs w B0 ov m xs) (hBw : B0 ≤ w.heap.size) (hm : m ≤ 1000)
    (hform : a = [] ∨ a = [114] ∨ a = [98] ∨ a = [114, 98]) (hL : s.data.toList = litL a wd q B ++ [10]) (hq : q = 34 ∨ q = 39) (hB : Body q B) (hp : PlainL B) :
    Calls Tryz.prog 14 #[.pointer (some ⟨X, 0, none⟩)] w (NLitPost X B0 s (a.length + 2 * wd + B.length) (a.contains 114) (a.contains 98) bg bk ov m xs B w) := by
  have hsz : s.size ≤ 10000 := by
    have := congrArg List.length hL
    rw [List.length_append, litL_len] at this
    have h2 := hB.len
    have h3 : a.length ≤ 2 := by rcases hform with rfl | rfl | rfl | rfl <;> simp
    simp at this
    rcases hwd with rfl | rfl <;> omega
  have hpk : ∀ f, pk a 0 = f → 0 < a.length → pk s.data.toList 0 = f := fun f hf hl => by rw [hL, pk_ahead [10] hl, hf]
  rcases hform with rfl | rfl | rfl | rfl
  · exact next_q wd hwd B q m xs h ho hBw hm hL hq hB hp
  · exact next_word 114 m xs h ho hBw hsz (.inl rfl) (hpk 114 rfl (by simp)) (fun W h1 h2 h3 => word_r wd hwd B q m xs h1 h2 h3 hm hL hq hB hp)
  · exact next_word 98 m xs h ho hBw hsz (.inr rfl) (hpk 98 rfl (by simp)) (fun W h1 h2 h3 => word_b wd hwd B q m xs h1 h2 h3 hm hL hq hB hp)
  · exact next_word 114 m xs h ho hBw hsz (.inl rfl) (hpk 114 rfl (by simp)) (fun W h1 h2 h3 => word_rb wd hwd B q m xs h1 h2 h3 hm hL hq hB hp)
theorem outs_nil (w : World) (B : Nat) : Outs w B (.slice none 0 0) 0 [] := World.ownsRow_nil _ _ _ _
theorem nil_own (X B0 k : Nat) (hX : B0 ≤ X) : (k = X ∨ (Value.slice none 0 0).ownBlock = some k) → B0 ≤ k := by
  rintro (rfl | h)
  · exact hX
  · simp [Value.ownBlock] at h
set_option maxRecDepth 20000 in
set_option maxHeartbeats 16000000 in
theorem fscan_any (t : ByteArray) (a B : List UInt8) (wd : Nat) (q : UInt8) (w : World) (hT : Tabs w) (hform : a = [] ∨ a = [114] ∨ a = [98] ∨ a = [114, 98]) (hwd : wd = 1 ∨ wd = 3) (hq : q = 34 ∨ q = 39) (hB : Body q B) (ht : t.data.toList = litL a wd q B) :
    Calls Tryz.prog 9 #[.string t] w (FScanPost t (a.contains 114) (a.contains 98) B w) := by
  have htl : t.data.toList.length = t.size := by simp
  have hN : t.size = a.length + 2 * wd + B.length := by
    rw [← htl, ht, litL_len]; omega
  have hN2 : t.size ≤ 2000 := by
    have h2 := hB.len
    have h3 : a.length ≤ 2 := by rcases hform with rfl | rfl | rfl | rfl <;> simp
    rcases hwd with rfl | rfl <;> omega
  have hN1 : 2 ≤ t.size := by rcases hwd with rfl | rfl <;> omega
  obtain ⟨n1, hn1⟩ : ∃ n1 : Nat, (t.size : Int) - 1 = (n1 : Int) := ⟨t.size - 1, by omega⟩
  have hn1l : n1 < t.size := by omega
  have hlast : t[n1] = q := by
    have h1 : pk t.data.toList n1 = t[n1] := by rw [pk_at (by rw [htl]; exact hn1l)]; rfl
    rw [← h1, ht]
    have h2 := pk_close (a := a) (B := B) (wd := wd) (q := q) (i := n1) (j := wd - 1) [] (by rcases hwd with rfl | rfl <;> omega) (by rcases hwd with rfl | rfl <;> omega)
    rw [List.append_nil] at h2
    exact h2
  have hl10 : (((t[n1]).toNat : Int) != 10) = true := by
    rw [hlast]
    rcases hq with rfl | rfl <;> rfl
  have he1 := emp_false (s := t) (by omega)
  have he2 : t.toList ≠ [] := by
    intro e
    rw [e] at he1
    simp at he1
  obtain ⟨s, hs⟩ : ∃ s, s = t ++ ⟨#[10]⟩ := ⟨_, rfl⟩
  have HLS : Hid (s.data.toList = litL a wd q B ++ [10]) := by unfold Hid; rw [hs, ← ht]; simp
  have hsz : s.size = t.size + 1 := by rw [hs]; simp; rfl
  have HSX : Hid (s.extract 0 (0 + t.size) = t) := by rw [hs, Nat.zero_add]; exact ext_front t _
  have hs2 : s.size ≤ 100000 := by omega
  have hsz1 : s.size ≤ t.size + 1 := by omega
  have hsz2 : t.size + 1 ≤ s.size := by omega
  have HP := Lib.hid (plain_any t w (by omega) hT)
  have HN := Lib.hid hN
  have HFO := Lib.hid hform
  have HWD := Lib.hid hwd
  have HQ := Lib.hid hq
  have HB := Lib.hid hB
  have HT := Lib.hid ht
  have hs3 := hs.symm
  obtain ⟨f, hf⟩ : ∃ f, f = pk s.data.toList 0 := ⟨_, rfl⟩
  have HF : Hid (f = 34 ∨ f = 39 ∨ f = 114 ∨ f = 98) := by
    rw [hf, HLS.out]
    rcases hform with rfl | rfl | rfl | rfl
    · rw [pk_open (a := []) (i := 0) (j := 0) [10] (by rcases hwd with rfl | rfl <;> decide) rfl]
      rcases hq with rfl | rfl
      · exact .inl rfl
      · exact .inr (.inl rfl)
    · rw [pk_ahead [10] (by simp)]; exact .inr (.inr (.inl rfl))
    · rw [pk_ahead [10] (by simp)]; exact .inr (.inr (.inr rfl))
    · rw [pk_ahead [10] (by simp)]; exact .inr (.inr (.inl rfl))
  have HFP := Lib.hid hf.symm
  have HNL : Hid (pk s.data.toList t.size = 10) := by
    unfold Hid
    rw [HLS.out]
    exact pk_behind (j := 0) [10] (by omega)
  clear hT hform hwd hq hB ht htl hN hlast hs hsz hf
  go_enter Tryz.func9, Tryz.ntmps9
  go_wp2_with fail
  refine HP.out.mono ?_
  rintro e w1 ⟨rfl, hb1⟩
  have HB1 := Lib.hid hb1
  clear hb1
  by_cases hpb : (plainB t.data.toList && Lib.validD t.data.toList) = true
  · rw [hpb]
    have HPB : Hid (plainB t.data.toList = true) := by
      rw [Bool.and_eq_true] at hpb
      exact hpb.1
    have HPL : Hid (PlainL B) := by
      have h := plainB_plain HPB.out
      rw [HT.out] at h
      exact h.sub (fun c hc => by unfold litL; simp [hc])
    clear hpb
    go_wp2_with fail
    obtain ⟨K, hK⟩ : ∃ K, K = w1.heap.size := ⟨_, rfl⟩
    obtain ⟨X, hX⟩ : ∃ X, X = w1.heap.size + 1 := ⟨_, rfl⟩
    obtain ⟨w2, hw2⟩ : ∃ w2, w2 = (w1.alloc (.cells #[.int .i64 0] 3)).alloc (.cells #[.string s, .int .i64 0, .int .i64 1, .int .i64 1, .bool true, .slice none 0 0, .slice (some ⟨K, 0, none⟩) 1 1, .slice none 0 0, .int .i64 2] 51) := ⟨_, rfl⟩
    have HK2 : Hid (Blk w2 K 3 #[.int .i64 0]) := by rw [hw2, hK]; exact (Blk.new w1 _ _).alloc _
    have HSC2 : Hid (Sc w2 X s 0 1 1 true (.slice (some ⟨K, 0, none⟩) 1 1) (.slice none 0 0) 2) := by rw [hw2, hX]; exact Blk.new_at _ _ _ (by simp)
    have HB2 : Hid (Below w.heap.size w w2) := by rw [hw2]; exact (HB1.out.alloc HB1.out.size _).alloc (by have := HB1.out.size; simp; omega) _
    have HXB : Hid (w.heap.size ≤ X) := by have := HB1.out.size; unfold Hid; omega
    rw [hK] at hw2
    first | rw [← hw2] | skip
    first | rw [← hX] | skip
    first | rw [← hK] | skip
    clear hw2 hK hX hs3
    obtain ⟨-, c1, -, -, c4, c5, -, -, c8⟩ := HSC2.out.cells
    refine wp_loop_rounds 4 ?_
    rw [rounds_succ]
    go_wp2_with fail
    refine (begin_any f HSC2.out HK2.out (by omega) HFP.out HF.out).mono ?_
    rintro e w3 ⟨rfl, hon3, l3, d3, hsc3⟩
    have HSC3 := Lib.hid hsc3
    have HB3 : Hid (Below w.heap.size w w3) := only_below HB2.out hon3 (fun k e => by rw [e]; exact HXB.out)
    clear c1 c4 c5 c8 hsc3 hon3
    obtain ⟨-, c1, -, -, c4, c5, -, -, c8⟩ := HSC3.out.cells
    go_wp2_with fail
    rw [rounds_succ]
    go_wp2_with fail
    refine (next_first wd HWD.out a B q 0 [] HSC3.out (outs_nil w3 w.heap.size) HB3.out.size (by omega) HFO.out HLS.out HQ.out HB.out HPL.out).mono ?_
    rintro e w4 ⟨rfl, hlit⟩
    clear c1 c4 c5 c8
    rcases hlit with ⟨-, hon, hby, hex, l4, d4, hsc4⟩ | ⟨-, hon, ⟨hden, l4, d4, hsc4⟩ | ⟨T, l4, d4, el4, ec4, ov4, hden, hsc4, ho4⟩⟩
    · have HW : Hid (OpenWhy t (a.contains 98) B) := .inr ⟨hby, hex⟩
      have HSC4 : Hid (Sc w4 X s ((0 : Nat) : Int) l4 d4 false (.slice (some ⟨K, 0, none⟩) 1 1) (.slice none 0 0) 0) := hsc4
      have HB4 : Hid (Below w.heap.size w w4) := only_below HB3.out hon (nil_own X _ · HXB.out)
      have HO4 : Hid (Outs w4 w.heap.size (.slice none 0 0) 0 []) := outs_nil w4 _
      clear hby hex hsc4 hon
      obtain ⟨-, c1, -, -, c4, c5, c6, -, c8⟩ := HSC4.out.cells
      go_wp2_with fail
      clear c1 c4 c5 c6 c8
      obtain ⟨-, c1, -, -, c4, c5, c6, -, c8⟩ := HSC4.out.cells
      rw [rounds_succ]
      go_wp2_with fail
      refine wp_loop_rounds 1 ?_
      rw [rounds_succ]
      go_wp2_with fail
      refine (put_any 0 0 0 [] 1 0 ⟨#[]⟩ HSC4.out HO4.out HB4.out.size (by omega) hs2 (by omega)).mono ?_
      rintro e y1 ⟨rfl, l2, d2, el2, ec2, ov2, hsc5, ho5, hon5⟩
      obtain ⟨g, cap, rfl⟩ := outs_form ho5
      have HSY := Lib.hid hsc5
      have HOY := Lib.hid ho5
      have HBY : Hid (Below w.heap.size w y1) := only_below HB4.out hon5 (fun k hk => hk.elim (fun e => by rw [e]; exact HXB.out) (fun e => (World.ownsRow.lt HO4.out k e).1))
      clear hsc5 ho5 hon5 c1 c4 c5 c6 c8
      obtain ⟨-, -, -, -, -, c5, -, c7, c8⟩ := HSY.out.cells
      go_wp2_with fail
      refine (deep1 1 _ _ _ _ _ _ _ rfl HOY.out).mono ?_
      rintro e y2 ⟨rfl, hby2⟩
      have HSZ : Hid (Sc y2 X s _ el2 ec2 _ _ _ 0) := HSY.out.below hby2
      have HOZ : Hid (Outs y2 w.heap.size (.slice (some ⟨g, 0, none⟩) 1 cap) 1 _) := own_below HOY.out hby2
      have HBZ : Hid (Below w.heap.size w y2) := HBY.out.trans (hby2.mono HBY.out.size)
      clear hby2 c5 c7 c8
      obtain ⟨-, -, -, -, -, c5, -, c7, c8⟩ := HSZ.out.cells
      go_wp2_with fail
      go_quiet (fail)
      go_wp2
      go_ret3
      exact ⟨below_dn HBZ.out _, .inl ⟨HW.out, _, _, rfl⟩⟩
    · have HD := Lib.hid hden
      have HSC4 : Hid (Sc w4 X s ((0 : Nat) : Int) l4 d4 false (.slice (some ⟨K, 0, none⟩) 1 1) (.slice none 0 0) 1) := hsc4
      have HB4 : Hid (Below w.heap.size w w4) := only_below HB3.out hon (nil_own X _ · HXB.out)
      have HO4 : Hid (Outs w4 w.heap.size (.slice none 0 0) 0 []) := outs_nil w4 _
      clear hden hsc4 hon
      obtain ⟨-, c1, -, -, c4, c5, c6, -, c8⟩ := HSC4.out.cells
      go_wp2_with fail
      clear c1 c4 c5 c6 c8
      obtain ⟨-, c1, -, -, c4, c5, c6, -, c8⟩ := HSC4.out.cells
      rw [rounds_succ]
      go_wp2_with fail
      refine wp_loop_rounds 1 ?_
      rw [rounds_succ]
      go_wp2_with fail
      refine (put_any 0 0 0 [] 1 0 ⟨#[]⟩ HSC4.out HO4.out HB4.out.size (by omega) hs2 (by omega)).mono ?_
      rintro e y1 ⟨rfl, l2, d2, el2, ec2, ov2, hsc5, ho5, hon5⟩
      obtain ⟨g, cap, rfl⟩ := outs_form ho5
      have HSY := Lib.hid hsc5
      have HOY := Lib.hid ho5
      have HBY : Hid (Below w.heap.size w y1) := only_below HB4.out hon5 (fun k hk => hk.elim (fun e => by rw [e]; exact HXB.out) (fun e => (World.ownsRow.lt HO4.out k e).1))
      clear hsc5 ho5 hon5 c1 c4 c5 c6 c8
      obtain ⟨-, -, -, -, -, c5, -, c7, c8⟩ := HSY.out.cells
      go_wp2_with fail
      refine (deep1 1 _ _ _ _ _ _ _ rfl HOY.out).mono ?_
      rintro e y2 ⟨rfl, hby2⟩
      have HSZ : Hid (Sc y2 X s _ el2 ec2 _ _ _ 1) := HSY.out.below hby2
      have HOZ : Hid (Outs y2 w.heap.size (.slice (some ⟨g, 0, none⟩) 1 cap) 1 _) := own_below HOY.out hby2
      have HBZ : Hid (Below w.heap.size w y2) := HBY.out.trans (hby2.mono HBY.out.size)
      clear hby2 c5 c7 c8
      obtain ⟨-, -, -, -, -, c5, -, c7, c8⟩ := HSZ.out.cells
      go_wp2_with fail
      go_quiet (fail)
      go_wp2
      go_ret3
      exact ⟨below_dn HBZ.out _, .inr (.inl ⟨HPB.out, HD.out, _, _, rfl⟩)⟩
    · have HD := Lib.hid hden
      have HSC4 : Hid (Sc w4 X s ((t.size : Nat) : Int) el4 ec4 false (.slice (some ⟨K, 0, none⟩) 1 1) ov4 2) := by rw [HN.out, ← Nat.zero_add (a.length + 2 * wd + B.length)]; exact hsc4
      rw [← HN.out, HSX.out] at ho4
      have HO4 := Lib.hid ho4
      have HB4 : Hid (Below w.heap.size w w4) := only_below HB3.out hon (nil_own X _ · HXB.out)
      clear hden hsc4 hon ho4
      obtain ⟨-, c1, -, -, c4, c5, c6, -, c8⟩ := HSC4.out.cells
      go_wp2_with fail
      rw [rounds_succ]
      go_wp2_with fail
      refine (next_nl t.size 1 _ HSC4.out HO4.out HB4.out.size (by omega) (by omega) (by omega) HNL.out).mono ?_
      rintro e w5 ⟨rfl, hon5, l5, d5, el5, ec5, ov5, hsc5, ho5⟩
      have HSC5 := Lib.hid hsc5
      have HO5 := Lib.hid ho5
      have HB5 : Hid (Below w.heap.size w w5) := only_below HB4.out hon5 (fun k hk => hk.elim (fun e => by rw [e]; exact HXB.out) (fun e => (World.ownsRow.lt HO4.out k e).1))
      clear hon5 hsc5 ho5 c1 c4 c5 c6 c8
      obtain ⟨-, c1, -, -, c4, c5, c6, -, c8⟩ := HSC5.out.cells
      go_wp2_with fail
      clear c1 c4 c5 c6 c8
      have HK8 : Hid ((if a.contains 98 = true then (9 : Int) else 8) = 8 ∨ (if a.contains 98 = true then (9 : Int) else 8) = 9) := by unfold Hid; cases a.contains 98 <;> simp
      obtain ⟨-, c1, -, -, c4, c5, c6, -, c8⟩ := HSC5.out.cells
      rw [rounds_succ]
      go_wp2_with fail
      refine wp_loop_rounds 1 ?_
      rw [rounds_succ]
      go_wp2_with fail
      refine (put_any (t.size + 1) 0 2 _ 1 0 ⟨#[]⟩ HSC5.out HO5.out HB5.out.size (by omega) hs2 (by omega)).mono ?_
      rintro e y1 ⟨rfl, l2, d2, el2, ec2, ov2, hsc5, ho5, hon5⟩
      obtain ⟨g, cap, rfl⟩ := outs_form ho5
      have HSY := Lib.hid hsc5
      have HOY := Lib.hid ho5
      have HBY : Hid (Below w.heap.size w y1) := only_below HB5.out hon5 (fun k hk => hk.elim (fun e => by rw [e]; exact HXB.out) (fun e => (World.ownsRow.lt HO5.out k e).1))
      clear hsc5 ho5 hon5 c1 c4 c5 c6 c8
      obtain ⟨-, -, -, -, -, c5, -, c7, c8⟩ := HSY.out.cells
      go_wp2_with fail
      refine (deep3 _ _ _ _ _ _ _ _ _ _ _ _ _ _ _ _ _ _ _ _ _ _ _ _ HK8.out rfl rfl HOY.out).mono ?_
      rintro e y2 ⟨rfl, hby2⟩
      have HSZ : Hid (Sc y2 X s _ el2 ec2 _ _ _ 2) := HSY.out.below hby2
      have HOZ : Hid (Outs y2 w.heap.size (.slice (some ⟨g, 0, none⟩) 3 cap) 3 _) := own_below HOY.out hby2
      have HBZ : Hid (Below w.heap.size w y2) := HBY.out.trans (hby2.mono HBY.out.size)
      clear hby2 c5 c7 c8
      obtain ⟨-, -, -, -, -, c5, -, c7, c8⟩ := HSZ.out.cells
      go_wp2_with fail
      go_quiet (fail)
      go_wp2
      go_ret3
      exact ⟨below_dn HBZ.out _, .inr (.inr ⟨HPB.out, T, HD.out, g, cap, _, rfl, _, _, _, _, _, _, _, _, _, _, _, _, _, _, _, _, _, _, HOZ.out⟩)⟩
  · have hpf : (plainB t.data.toList && Lib.validD t.data.toList) = false := by simpa using hpb
    have HPF := Lib.hid hpf
    rw [hpf]
    clear hpb hpf
    go_wp2
    go_ret3
    exact ⟨HB1.out, .inl ⟨.inl HPF.out, _, _, rfl⟩⟩
end Go.Proofs.YtghendoiohfolaaGreatDoor
