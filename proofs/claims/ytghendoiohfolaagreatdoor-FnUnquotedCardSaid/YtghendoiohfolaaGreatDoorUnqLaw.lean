/- The law of the literals that are unquoted. -/
import Derived.Test.YtghendoiohfolaaGreatDoorFrontLit
import Derived.Test.YtghendoiohfolaaGreatDoorBodyUnq
namespace Go.Proofs.YtghendoiohfolaaGreatDoor
set_option linter.unusedSimpArgs false
set_option linter.unusedVariables false
set_option linter.unnecessarySimpa false
open Go.RowKit
def ZUqPost (raw by_ : Bool) (B : List UInt8) (w : World) (e : Ending) (w' : World) : Prop :=
  Below w.heap.size w w' ∧ ((∃ T, den raw by_ B = some T ∧ e = .returned (.tuple #[.string ⟨T.toArray⟩, .bool by_, .bool true])) ∨ (den raw by_ B = none ∧ e = .returned (.tuple #[.string ⟨#[]⟩, .bool false, .bool false])))
def ZzUqPost (raw by_ : Bool) (B : List UInt8) (w : World) (e : Ending) (w' : World) : Prop :=
  Below w.heap.size w w' ∧ ((∃ T, den raw by_ B = some T ∧ e = .returned (.tuple #[.string ⟨T.toArray⟩, .bool by_, .nilIface])) ∨ (den raw by_ B = none ∧ ∃ S tt p, e = .returned (.tuple #[.string S, .bool by_, .iface tt (.pointer (some p))])))
set_option maxHeartbeats 2000000 in
theorem zzunq_any (t : ByteArray) (raw by_ : Bool) (B : List UInt8) (w : World) (h : Calls Tryz.prog 17 #[.string t] w (UqPost raw by_ B w)) :
    Calls Tryz.prog 10 #[.string t] w (ZzUqPost raw by_ B w) := by
  have H := Lib.hid h
  clear h
  go_enter Tryz.func10, Tryz.ntmps10
  go_wp2_with fail
  refine H.out.mono ?_
  rintro e w1 ⟨hb, ⟨T, tr, hd, rfl⟩ | ⟨hd, S, tr, tt, p, rfl⟩⟩
  · have HD := Lib.hid hd
    have HB := Lib.hid hb
    obtain ⟨TT, hTT⟩ : ∃ TT : ByteArray, TT = ⟨T.toArray⟩ := ⟨_, rfl⟩
    rw [← hTT]
    have HTT := Lib.hid hTT
    clear hd hb hTT
    go_wp2
    go_ret3
    exact ⟨HB.out, .inl ⟨T, HD.out, by rw [HTT.out]; rfl⟩⟩
  · have HD := Lib.hid hd
    have HB := Lib.hid hb
    clear hd hb
    go_wp2
    go_ret3
    exact ⟨HB.out, .inr ⟨HD.out, _, _, _, rfl⟩⟩
set_option maxHeartbeats 2000000 in
theorem unquoted_any (t : ByteArray) (raw by_ : Bool) (B : List UInt8) (w : World) (h : Calls Tryz.prog 17 #[.string t] w (UqPost raw by_ B w)) :
    Calls Tryz.prog 7 #[.string t] w (ZUqPost raw by_ B w) := by
  have H := Lib.hid (zzunq_any t raw by_ B w h)
  clear h
  go_enter Tryz.func7, Tryz.ntmps7
  go_wp2_with fail
  refine H.out.mono ?_
  rintro e w1 ⟨hb, ⟨T, hd, rfl⟩ | ⟨hd, S, tt, p, rfl⟩⟩
  · have HD := Lib.hid hd
    have HB := Lib.hid hb
    obtain ⟨TT, hTT⟩ : ∃ TT : ByteArray, TT = ⟨T.toArray⟩ := ⟨_, rfl⟩
    rw [← hTT]
    have HTT := Lib.hid hTT
    clear hd hb hTT
    go_wp2
    go_ret3
    exact ⟨HB.out, .inl ⟨T, HD.out, by rw [HTT.out]; rfl⟩⟩
  · have HD := Lib.hid hd
    have HB := Lib.hid hb
    clear hd hb
    go_wp2
    go_ret3
    exact ⟨HB.out, .inr ⟨HD.out, rfl⟩⟩
/-- Both texts of the law, and what is known of them. -/
def GoodT (s : ByteArray) (a B : List UInt8) (wd : Nat) (q : UInt8) : Prop := (a = [] ∨ a = [114] ∨ a = [98] ∨ a = [114, 98]) ∧ (wd = 1 ∨ wd = 3) ∧ (q = 34 ∨ q = 39) ∧ Body q B ∧ s.data.toList = litL a wd q B
theorem good_funq {s : ByteArray} {a B : List UInt8} {wd : Nat} {q : UInt8} (h : GoodT s a B wd q) (w : World) (hT : Tabs w) : Calls Tryz.prog 6 #[.string s] w (FUnqPost s (a.contains 114) (a.contains 98) B w) :=
  funq_any s a B wd q w hT h.1 h.2.1 h.2.2.1 h.2.2.2.1 h.2.2.2.2
theorem good_plain {s : ByteArray} {a B : List UInt8} {wd : Nat} {q : UInt8} (h : GoodT s a B wd q) (hp : plainB s.data.toList = true) : PlainL B := by
  have h1 := plainB_plain hp
  rw [h.2.2.2.2] at h1
  exact h1.sub (fun c hc => by unfold litL; simp [hc])
theorem good_unq {s : ByteArray} {a B : List UInt8} {wd : Nat} {q : UInt8} (h : GoodT s a B wd q) (hp : plainB s.data.toList = true) (w : World) (hE : ErrOk w) (hU : UnescT w) : Calls Tryz.prog 7 #[.string s] w (ZUqPost (a.contains 114) (a.contains 98) B w) :=
  unquoted_any s _ _ B w (unquote_any s a B wd q w h.1 h.2.1 h.2.2.1 h.2.2.2.1 (good_plain h hp) h.2.2.2.2 hE hU)
def tA : ByteArray := ⟨#[39, 97, 92, 120, 52, 49, 39]⟩
theorem tA_good : GoodT tA [] [97, 92, 120, 52, 49] 1 39 := by
  refine ⟨.inl rfl, .inl rfl, .inr rfl, ⟨by decide, by decide, ?_, by decide⟩, rfl⟩
  intro x hx
  simp at hx
  subst hx
  decide
theorem tA_open : ¬ OpenWhy tA false [97, 92, 120, 52, 49] := by
  rintro (h | ⟨h, _⟩)
  · revert h
    decide +kernel
  · cases h
theorem tA_den : den false false [97, 92, 120, 52, 49] = some [97, 65] := by decide +kernel
theorem tA_plain : plainB tA.data.toList = true := by decide +kernel
def tQ : ByteArray := ⟨#[39, 113, 39]⟩
theorem tQ_good : GoodT tQ [] [113] 1 39 := by
  refine ⟨.inl rfl, .inl rfl, .inr rfl, ⟨by decide, by decide, ?_, by decide⟩, rfl⟩
  intro x hx
  simp at hx
  subst hx
  decide
theorem tQ_den : den false false [113] = some [113] := by decide +kernel
theorem tQ_plain : plainB tQ.data.toList = true := by decide +kernel
set_option maxHeartbeats 2000000 in
theorem begins_any (s : ByteArray) (w : World) (hs : s.size ≤ 2147483647) (hT : Tabs w) :
    Calls Tryz.prog 5 #[.string s, .int .i64 200] w fun e w' => ∃ v : ByteArray, e = .returned (.string v) ∧ v.size ≤ 200 ∧ Below w.heap.size w w' := by
  obtain ⟨m, hm⟩ : ∃ m : Nat, min (s.size : Int) 200 = (m : Int) := ⟨min s.size 200, by omega⟩
  have hm1 : m ≤ s.size := by omega
  have hm2 : m ≤ 200 := by omega
  have hm3 : (m : Int) ≤ (s.size : Int) := by omega
  obtain ⟨u, hu⟩ : ∃ u, s.extract 0 m = u := ⟨_, rfl⟩
  have hus : u.size ≤ 200 := by rw [← hu]; simp; omega
  have HV := Lib.hid (valid_any u (by omega) w hT)
  clear hT
  go_enter Tryz.func5, Tryz.ntmps5
  go_wp2_with fail
  refine HV.out.mono ?_
  rintro e w1 ⟨v, rfl, -, hvs, hb⟩
  have HB := Lib.hid hb
  have HVS := Lib.hid hvs
  clear hb hvs
  go_wp2
  go_ret
  exact ⟨v, rfl, by rw [HVS.out]; exact hus, HB.out⟩
set_option maxRecDepth 20000 in
set_option maxHeartbeats 8000000 in
theorem unq_core (form : Int) (body : ByteArray) (w : World) (h0 : 0 ≤ form) (h1 : form ≤ 255) (hs : body.size ≤ 2147483647) (hT : Tabs w) (hE : ErrOk w) (hU : UnescT w) :
    Calls Tryz.prog 3 #[.int .u8 form, .string body] w fun e w' => e = .returned (.bool true) ∧ Below w.heap.size w w' := by
  have HBG := Lib.hid (begins_any body w hs hT)
  have HT := Lib.hid hT
  have HE := Lib.hid hE
  have HU := Lib.hid hU
  have H0 := Lib.hid h0
  have H1 := Lib.hid h1
  have ksz : decide ((2147483647 : Int) < (body.size : Int)) = false := by simp; omega
  clear hT hE hU h0 h1 hs
  go_enter Tryz.func3, Tryz.ntmps3
  go_wp2_with fail
  refine HBG.out.mono ?_
  rintro e w1 ⟨v, rfl, hv, hb⟩
  have HV := Lib.hid hv
  have HB1 := Lib.hid hb
  clear hv hb
  go_wp2_with fail
  refine (flit_any form v w1 H0.out H1.out (by have := HV.out; omega)).mono ?_
  rintro e w2 ⟨hb, s, a, B, wd, q, rfl, g1, g2, g3, g4, g5⟩
  have HG : Hid (GoodT s a B wd q) := ⟨g1, g2, g3, g4, g5⟩
  have HB2 : Hid (Below w.heap.size w w2) := HB1.out.trans (hb.mono HB1.out.size)
  have HT2 : Hid (Tabs w2) := tabs_below HT.out HB2.out
  clear hb g1 g2 g3 g4 g5
  go_wp2_with fail
  refine (good_funq HG.out w2 HT2.out).mono ?_
  rintro e w3 ⟨hb, hpost⟩
  have HB3 : Hid (Below w.heap.size w w3) := HB2.out.trans (hb.mono HB2.out.size)
  clear hb
  obtain ⟨raw, hraw⟩ : ∃ r, a.contains 114 = r := ⟨_, rfl⟩
  obtain ⟨by_, hby⟩ : ∃ r, a.contains 98 = r := ⟨_, rfl⟩
  rw [hraw, hby] at hpost
  rcases hpost with ⟨-, rfl⟩ | ⟨hpl, hd, rfl⟩ | ⟨hpl, T, hd, rfl⟩
  · unfold zeroVal
    obtain ⟨w4, hw4⟩ : ∃ w4, w3.alloc (.cells #[.int .i64 0, .bool false, .slice none 0 0, .int .u64 0, .string ⟨#[]⟩, .slice none 0 0] 28) = w4 := ⟨_, rfl⟩
    obtain ⟨R, hR⟩ : ∃ R, w3.heap.size = R := ⟨_, rfl⟩
    have HRW : Hid (w.heap.size ≤ R) := by rw [← hR]; exact HB3.out.size
    have HB4 : Hid (Below w.heap.size w w4) := by rw [← hw4]; exact HB3.out.alloc HB3.out.size _
    have HR4 : Hid (Blk w4 R 28 #[.int .i64 0, .bool false, .slice none 0 0, .int .u64 0, .string ⟨#[]⟩, .slice none 0 0]) := by rw [← hw4, ← hR]; exact Blk.new w3 _ _
    have HRL4 : Hid (R < w4.heap.size) := HR4.out.lt
    have HE4 : Hid (ErrOk w4) := HE.out.below HB4.out
    have HU4 : Hid (UnescT w4) := HU.out.below HB4.out
    obtain ⟨s0, s1, s2, s3, s4, s5, f0, f1, f2, f3, f4, f5⟩ := blk_six HR4.out
    obtain ⟨w5, hw5⟩ : ∃ w5, w5 = ((((((w4.setCell ⟨R, 0, none⟩ (.int .i64 0)).setCell ⟨R, 1, none⟩ (.bool false)).setCell ⟨R, 2, none⟩ (.slice none 0 0)).setCell ⟨R, 3, none⟩ (.int .u64 0)).setCell ⟨R, 4, none⟩ (.string ⟨#[]⟩)).setCell ⟨R, 5, none⟩ (.slice none 0 0)) := ⟨_, rfl⟩
    have HR5 : Hid (Blk w5 R 28 #[.int .i64 0, .bool false, .slice none 0 0, .int .u64 0, .string ⟨#[]⟩, .slice none 0 0]) := by rw [hw5]; exact ((((((HR4.out.put 0 (.int .i64 0)).put 1 (.bool false)).put 2 (.slice none 0 0)).put 3 (.int .u64 0)).put 4 (.string ⟨#[]⟩)).put 5 (.slice none 0 0))
    have HB5 : Hid (Below w.heap.size w w5) := by rw [hw5]; exact ((((((HB4.out.setCell (p := ⟨R, 0, none⟩) HRW.out _).setCell (p := ⟨R, 1, none⟩) HRW.out _).setCell (p := ⟨R, 2, none⟩) HRW.out _).setCell (p := ⟨R, 3, none⟩) HRW.out _).setCell (p := ⟨R, 4, none⟩) HRW.out _).setCell (p := ⟨R, 5, none⟩) HRW.out _)
    have HRL5 : Hid (R < w5.heap.size) := HR5.out.lt
    have HT5 : Hid (Tabs w5) := tabs_below HT.out HB5.out
    have HE5 : Hid (ErrOk w5) := HE.out.below HB5.out
    have HU5 : Hid (UnescT w5) := HU.out.below HB5.out
    clear hraw hby
    have HFA := Lib.hid (good_funq tA_good w5 HT5.out)
    go_wp2_with fail
    rw [← hw5]
    clear hw4 hR hw5 s0 s1 s2 s3 s4 s5 f0 f1 f2 f3 f4 f5
    refine HFA.out.mono ?_
    rintro e w6 ⟨hb, ⟨hw, -⟩ | ⟨-, hd, -⟩ | ⟨-, T, hd, rfl⟩⟩
    · exact absurd hw tA_open
    · have h := tA_den.symm.trans hd
      cases h
    · have hTT : T = [97, 65] := by
        have h := tA_den.symm.trans hd
        exact (Option.some.inj h).symm
      subst hTT
      clear hd
      have HB6 : Hid (Below w.heap.size w w6) := HB5.out.trans (hb.mono HB5.out.size)
      have HR6 := Lib.hid (HR5.out.below hb HRL5.out)
      have HRL6 : Hid (R < w6.heap.size) := HR6.out.lt
      have HT6 : Hid (Tabs w6) := tabs_below HT.out HB6.out
      have HE6 : Hid (ErrOk w6) := HE.out.below HB6.out
      have HU6 : Hid (UnescT w6) := HU.out.below HB6.out
      clear hb
      obtain ⟨s0, s1, s2, s3, s4, s5, f0, f1, f2, f3, f4, f5⟩ := blk_six HR6.out
      obtain ⟨w7, hw7⟩ : ∃ w7, w7 = ((((((w6.setCell ⟨R, 0, none⟩ (.int .i64 4)).setCell ⟨R, 1, none⟩ (.bool false)).setCell ⟨R, 2, none⟩ (.slice none 0 0)).setCell ⟨R, 3, none⟩ (.int .u64 0)).setCell ⟨R, 4, none⟩ (.string ⟨#[97, 65]⟩)).setCell ⟨R, 5, none⟩ (.slice none 0 0)) := ⟨_, rfl⟩
      have HR7 : Hid (Blk w7 R 28 #[.int .i64 4, .bool false, .slice none 0 0, .int .u64 0, .string ⟨#[97, 65]⟩, .slice none 0 0]) := by rw [hw7]; exact ((((((HR6.out.put 0 (.int .i64 4)).put 1 (.bool false)).put 2 (.slice none 0 0)).put 3 (.int .u64 0)).put 4 (.string ⟨#[97, 65]⟩)).put 5 (.slice none 0 0))
      have HB7 : Hid (Below w.heap.size w w7) := by rw [hw7]; exact ((((((HB6.out.setCell (p := ⟨R, 0, none⟩) HRW.out _).setCell (p := ⟨R, 1, none⟩) HRW.out _).setCell (p := ⟨R, 2, none⟩) HRW.out _).setCell (p := ⟨R, 3, none⟩) HRW.out _).setCell (p := ⟨R, 4, none⟩) HRW.out _).setCell (p := ⟨R, 5, none⟩) HRW.out _)
      have HRL7 : Hid (R < w7.heap.size) := HR7.out.lt
      have HT7 : Hid (Tabs w7) := tabs_below HT.out HB7.out
      have HE7 : Hid (ErrOk w7) := HE.out.below HB7.out
      have HU7 : Hid (UnescT w7) := HU.out.below HB7.out
      have HUQ := Lib.hid (good_unq tA_good tA_plain w7 HE7.out HU7.out)
      go_wp2_with fail
      rw [← hw7]
      clear hw7 s0 s1 s2 s3 s4 s5 f0 f1 f2 f3 f4 f5
      refine HUQ.out.mono ?_
      rintro e w8 ⟨hb, ⟨T2, hT2, rfl⟩ | ⟨hT2, -⟩⟩
      · have hTT2 : T2 = [97, 65] := by
          have h := tA_den.symm.trans hT2
          exact (Option.some.inj h).symm
        subst hTT2
        clear hT2
        have HB8 : Hid (Below w.heap.size w w8) := HB7.out.trans (hb.mono HB7.out.size)
        have HR8 := Lib.hid (HR7.out.below hb HRL7.out)
        have HRL8 : Hid (R < w8.heap.size) := HR8.out.lt
        have HT8 : Hid (Tabs w8) := tabs_below HT.out HB8.out
        have HE8 : Hid (ErrOk w8) := HE.out.below HB8.out
        have HU8 : Hid (UnescT w8) := HU.out.below HB8.out
        clear hb
        obtain ⟨s0, s1, s2, s3, s4, s5, f0, f1, f2, f3, f4, f5⟩ := blk_six HR8.out
        go_wp2
        go_ret
        exact ⟨rfl, HB8.out⟩
      · have h := tA_den.symm.trans hT2
        cases h
  · unfold zeroVal
    have HPL := Lib.hid hpl
    have HD := Lib.hid hd
    clear hpl hd
    obtain ⟨w4, hw4⟩ : ∃ w4, w3.alloc (.cells #[.int .i64 0, .bool false, .slice none 0 0, .int .u64 0, .string ⟨#[]⟩, .slice none 0 0] 28) = w4 := ⟨_, rfl⟩
    obtain ⟨R, hR⟩ : ∃ R, w3.heap.size = R := ⟨_, rfl⟩
    have HRW : Hid (w.heap.size ≤ R) := by rw [← hR]; exact HB3.out.size
    have HB4 : Hid (Below w.heap.size w w4) := by rw [← hw4]; exact HB3.out.alloc HB3.out.size _
    have HR4 : Hid (Blk w4 R 28 #[.int .i64 0, .bool false, .slice none 0 0, .int .u64 0, .string ⟨#[]⟩, .slice none 0 0]) := by rw [← hw4, ← hR]; exact Blk.new w3 _ _
    have HRL4 : Hid (R < w4.heap.size) := HR4.out.lt
    have HE4 : Hid (ErrOk w4) := HE.out.below HB4.out
    have HU4 : Hid (UnescT w4) := HU.out.below HB4.out
    obtain ⟨s0, s1, s2, s3, s4, s5, f0, f1, f2, f3, f4, f5⟩ := blk_six HR4.out
    obtain ⟨w5, hw5⟩ : ∃ w5, w5 = ((((((w4.setCell ⟨R, 0, none⟩ (.int .i64 0)).setCell ⟨R, 1, none⟩ (.bool false)).setCell ⟨R, 2, none⟩ (.slice none 0 0)).setCell ⟨R, 3, none⟩ (.int .u64 0)).setCell ⟨R, 4, none⟩ (.string ⟨#[]⟩)).setCell ⟨R, 5, none⟩ (.slice none 0 0)) := ⟨_, rfl⟩
    have HR5 : Hid (Blk w5 R 28 #[.int .i64 0, .bool false, .slice none 0 0, .int .u64 0, .string ⟨#[]⟩, .slice none 0 0]) := by rw [hw5]; exact ((((((HR4.out.put 0 (.int .i64 0)).put 1 (.bool false)).put 2 (.slice none 0 0)).put 3 (.int .u64 0)).put 4 (.string ⟨#[]⟩)).put 5 (.slice none 0 0))
    have HB5 : Hid (Below w.heap.size w w5) := by rw [hw5]; exact ((((((HB4.out.setCell (p := ⟨R, 0, none⟩) HRW.out _).setCell (p := ⟨R, 1, none⟩) HRW.out _).setCell (p := ⟨R, 2, none⟩) HRW.out _).setCell (p := ⟨R, 3, none⟩) HRW.out _).setCell (p := ⟨R, 4, none⟩) HRW.out _).setCell (p := ⟨R, 5, none⟩) HRW.out _)
    have HRL5 : Hid (R < w5.heap.size) := HR5.out.lt
    have HT5 : Hid (Tabs w5) := tabs_below HT.out HB5.out
    have HE5 : Hid (ErrOk w5) := HE.out.below HB5.out
    have HU5 : Hid (UnescT w5) := HU.out.below HB5.out
    have HUQ := Lib.hid (good_unq HG.out HPL.out w5 HE5.out HU5.out)
    rw [hraw, hby] at HUQ
    clear hraw hby
    go_wp2_with fail
    rw [← hw5]
    clear hw4 hR hw5 s0 s1 s2 s3 s4 s5 f0 f1 f2 f3 f4 f5
    refine HUQ.out.mono ?_
    rintro e w6 ⟨hb, ⟨T, hT, -⟩ | ⟨-, rfl⟩⟩
    · rw [HD.out] at hT
      cases hT
    have HB6 : Hid (Below w.heap.size w w6) := HB5.out.trans (hb.mono HB5.out.size)
    have HR6 := Lib.hid (HR5.out.below hb HRL5.out)
    have HRL6 : Hid (R < w6.heap.size) := HR6.out.lt
    have HT6 : Hid (Tabs w6) := tabs_below HT.out HB6.out
    have HE6 : Hid (ErrOk w6) := HE.out.below HB6.out
    have HU6 : Hid (UnescT w6) := HU.out.below HB6.out
    clear hb
    have HUR := Lib.hid (good_unq tQ_good tQ_plain w6 HE6.out HU6.out)
    go_wp2_with fail
    refine HUR.out.mono ?_
    rintro e w7 ⟨hb, ⟨T, hT, rfl⟩ | ⟨hT, -⟩⟩
    · have hTT : T = [113] := by
        have h := tQ_den.symm.trans hT
        exact (Option.some.inj h).symm
      subst hTT
      have HB7 : Hid (Below w.heap.size w w7) := HB6.out.trans (hb.mono HB6.out.size)
      have HR7 := Lib.hid (HR6.out.below hb HRL6.out)
      have HRL7 : Hid (R < w7.heap.size) := HR7.out.lt
      have HT7 : Hid (Tabs w7) := tabs_below HT.out HB7.out
      have HE7 : Hid (ErrOk w7) := HE.out.below HB7.out
      have HU7 : Hid (UnescT w7) := HU.out.below HB7.out
      clear hb
      clear hT
      go_wp2
      go_ret
      exact ⟨rfl, HB7.out⟩
    · have h := tQ_den.symm.trans hT
      cases h
  · obtain ⟨TT, hTT⟩ : ∃ TT : ByteArray, TT = ⟨T.toArray⟩ := ⟨_, rfl⟩
    rw [← hTT]
    have HPL := Lib.hid hpl
    have HD := Lib.hid hd
    have HTT := Lib.hid hTT
    clear hpl hd hTT
    rcases Bool.eq_false_or_eq_true by_ with hbv | hbv
    · subst hbv
      rw [if_pos rfl]
      obtain ⟨w4, hw4⟩ : ∃ w4, w3.alloc (.cells #[.int .i64 0, .bool false, .slice none 0 0, .int .u64 0, .string ⟨#[]⟩, .slice none 0 0] 28) = w4 := ⟨_, rfl⟩
      obtain ⟨R, hR⟩ : ∃ R, w3.heap.size = R := ⟨_, rfl⟩
      have HRW : Hid (w.heap.size ≤ R) := by rw [← hR]; exact HB3.out.size
      have HB4 : Hid (Below w.heap.size w w4) := by rw [← hw4]; exact HB3.out.alloc HB3.out.size _
      have HR4 : Hid (Blk w4 R 28 #[.int .i64 0, .bool false, .slice none 0 0, .int .u64 0, .string ⟨#[]⟩, .slice none 0 0]) := by rw [← hw4, ← hR]; exact Blk.new w3 _ _
      have HRL4 : Hid (R < w4.heap.size) := HR4.out.lt
      have HE4 : Hid (ErrOk w4) := HE.out.below HB4.out
      have HU4 : Hid (UnescT w4) := HU.out.below HB4.out
      obtain ⟨s0, s1, s2, s3, s4, s5, f0, f1, f2, f3, f4, f5⟩ := blk_six HR4.out
      obtain ⟨w5, hw5⟩ : ∃ w5, w5 = ((((((w4.setCell ⟨R, 0, none⟩ (.int .i64 5)).setCell ⟨R, 1, none⟩ (.bool false)).setCell ⟨R, 2, none⟩ (.slice none 0 0)).setCell ⟨R, 3, none⟩ (.int .u64 0)).setCell ⟨R, 4, none⟩ (.string TT)).setCell ⟨R, 5, none⟩ (.slice none 0 0)) := ⟨_, rfl⟩
      have HR5 : Hid (Blk w5 R 28 #[.int .i64 5, .bool false, .slice none 0 0, .int .u64 0, .string TT, .slice none 0 0]) := by rw [hw5]; exact ((((((HR4.out.put 0 (.int .i64 5)).put 1 (.bool false)).put 2 (.slice none 0 0)).put 3 (.int .u64 0)).put 4 (.string TT)).put 5 (.slice none 0 0))
      have HB5 : Hid (Below w.heap.size w w5) := by rw [hw5]; exact ((((((HB4.out.setCell (p := ⟨R, 0, none⟩) HRW.out _).setCell (p := ⟨R, 1, none⟩) HRW.out _).setCell (p := ⟨R, 2, none⟩) HRW.out _).setCell (p := ⟨R, 3, none⟩) HRW.out _).setCell (p := ⟨R, 4, none⟩) HRW.out _).setCell (p := ⟨R, 5, none⟩) HRW.out _)
      have HRL5 : Hid (R < w5.heap.size) := HR5.out.lt
      have HT5 : Hid (Tabs w5) := tabs_below HT.out HB5.out
      have HE5 : Hid (ErrOk w5) := HE.out.below HB5.out
      have HU5 : Hid (UnescT w5) := HU.out.below HB5.out
      have HUQ := Lib.hid (good_unq HG.out HPL.out w5 HE5.out HU5.out)
      rw [hraw, hby] at HUQ
      clear hraw hby
      go_wp2_with fail
      rw [← hw5]
      clear hw4 hR hw5 s0 s1 s2 s3 s4 s5 f0 f1 f2 f3 f4 f5
      refine HUQ.out.mono ?_
      rintro e w6 ⟨hb, ⟨T2, hT2, rfl⟩ | ⟨hT2, -⟩⟩
      · have hTT2 : T2 = T := by
          have h := HD.out.symm.trans hT2
          exact (Option.some.inj h).symm
        subst hTT2
        rw [← HTT.out]
        clear hT2
        have HB6 : Hid (Below w.heap.size w w6) := HB5.out.trans (hb.mono HB5.out.size)
        have HR6 := Lib.hid (HR5.out.below hb HRL5.out)
        have HRL6 : Hid (R < w6.heap.size) := HR6.out.lt
        have HT6 : Hid (Tabs w6) := tabs_below HT.out HB6.out
        have HE6 : Hid (ErrOk w6) := HE.out.below HB6.out
        have HU6 : Hid (UnescT w6) := HU.out.below HB6.out
        clear hb
        obtain ⟨s0, s1, s2, s3, s4, s5, f0, f1, f2, f3, f4, f5⟩ := blk_six HR6.out
        go_wp2
        go_ret
        exact ⟨rfl, HB6.out⟩
      · have h := HD.out.symm.trans hT2
        cases h
    · subst hbv
      rw [if_neg (by decide)]
      obtain ⟨w4, hw4⟩ : ∃ w4, w3.alloc (.cells #[.int .i64 0, .bool false, .slice none 0 0, .int .u64 0, .string ⟨#[]⟩, .slice none 0 0] 28) = w4 := ⟨_, rfl⟩
      obtain ⟨R, hR⟩ : ∃ R, w3.heap.size = R := ⟨_, rfl⟩
      have HRW : Hid (w.heap.size ≤ R) := by rw [← hR]; exact HB3.out.size
      have HB4 : Hid (Below w.heap.size w w4) := by rw [← hw4]; exact HB3.out.alloc HB3.out.size _
      have HR4 : Hid (Blk w4 R 28 #[.int .i64 0, .bool false, .slice none 0 0, .int .u64 0, .string ⟨#[]⟩, .slice none 0 0]) := by rw [← hw4, ← hR]; exact Blk.new w3 _ _
      have HRL4 : Hid (R < w4.heap.size) := HR4.out.lt
      have HE4 : Hid (ErrOk w4) := HE.out.below HB4.out
      have HU4 : Hid (UnescT w4) := HU.out.below HB4.out
      obtain ⟨s0, s1, s2, s3, s4, s5, f0, f1, f2, f3, f4, f5⟩ := blk_six HR4.out
      obtain ⟨w5, hw5⟩ : ∃ w5, w5 = ((((((w4.setCell ⟨R, 0, none⟩ (.int .i64 4)).setCell ⟨R, 1, none⟩ (.bool false)).setCell ⟨R, 2, none⟩ (.slice none 0 0)).setCell ⟨R, 3, none⟩ (.int .u64 0)).setCell ⟨R, 4, none⟩ (.string TT)).setCell ⟨R, 5, none⟩ (.slice none 0 0)) := ⟨_, rfl⟩
      have HR5 : Hid (Blk w5 R 28 #[.int .i64 4, .bool false, .slice none 0 0, .int .u64 0, .string TT, .slice none 0 0]) := by rw [hw5]; exact ((((((HR4.out.put 0 (.int .i64 4)).put 1 (.bool false)).put 2 (.slice none 0 0)).put 3 (.int .u64 0)).put 4 (.string TT)).put 5 (.slice none 0 0))
      have HB5 : Hid (Below w.heap.size w w5) := by rw [hw5]; exact ((((((HB4.out.setCell (p := ⟨R, 0, none⟩) HRW.out _).setCell (p := ⟨R, 1, none⟩) HRW.out _).setCell (p := ⟨R, 2, none⟩) HRW.out _).setCell (p := ⟨R, 3, none⟩) HRW.out _).setCell (p := ⟨R, 4, none⟩) HRW.out _).setCell (p := ⟨R, 5, none⟩) HRW.out _)
      have HRL5 : Hid (R < w5.heap.size) := HR5.out.lt
      have HT5 : Hid (Tabs w5) := tabs_below HT.out HB5.out
      have HE5 : Hid (ErrOk w5) := HE.out.below HB5.out
      have HU5 : Hid (UnescT w5) := HU.out.below HB5.out
      have HUQ := Lib.hid (good_unq HG.out HPL.out w5 HE5.out HU5.out)
      rw [hraw, hby] at HUQ
      clear hraw hby
      go_wp2_with fail
      rw [← hw5]
      clear hw4 hR hw5 s0 s1 s2 s3 s4 s5 f0 f1 f2 f3 f4 f5
      refine HUQ.out.mono ?_
      rintro e w6 ⟨hb, ⟨T2, hT2, rfl⟩ | ⟨hT2, -⟩⟩
      · have hTT2 : T2 = T := by
          have h := HD.out.symm.trans hT2
          exact (Option.some.inj h).symm
        subst hTT2
        rw [← HTT.out]
        clear hT2
        have HB6 : Hid (Below w.heap.size w w6) := HB5.out.trans (hb.mono HB5.out.size)
        have HR6 := Lib.hid (HR5.out.below hb HRL5.out)
        have HRL6 : Hid (R < w6.heap.size) := HR6.out.lt
        have HT6 : Hid (Tabs w6) := tabs_below HT.out HB6.out
        have HE6 : Hid (ErrOk w6) := HE.out.below HB6.out
        have HU6 : Hid (UnescT w6) := HU.out.below HB6.out
        clear hb
        obtain ⟨s0, s1, s2, s3, s4, s5, f0, f1, f2, f3, f4, f5⟩ := blk_six HR6.out
        go_wp2
        go_ret
        exact ⟨rfl, HB6.out⟩
      · have h := HD.out.symm.trans hT2
        cases h
set_option maxHeartbeats 2000000 in
theorem unq_law (form : Int) (body : ByteArray) (w : World) (hk : (Lit.int .u8 form).wf = true) (_ : body.size ≤ maxLen) (hT : Tabs w) (hE : ErrOk w) (hU : UnescT w) :
    Calls Tryz.prog 3 #[.int .u8 form, .string body] w fun e w' => e = .returned (.bool true) ∧ Below w.heap.size w w' := by
  have hf : 0 ≤ form ∧ form ≤ 255 := by simp [Lit.wf, IntKind.min, IntKind.max, IntKind.signed, IntKind.bits] at hk; omega
  by_cases hs : body.size ≤ 2147483647
  · exact unq_core form body w hf.1 hf.2 hs hT hE hU
  · have ksz : decide ((2147483647 : Int) < (body.size : Int)) = true := by simp; omega
    clear hs hf hk hT hE hU
    go_enter Tryz.func3, Tryz.ntmps3
    go_wp2
    go_ret
    exact ⟨rfl, Below.refl _ _⟩
end Go.Proofs.YtghendoiohfolaaGreatDoor
