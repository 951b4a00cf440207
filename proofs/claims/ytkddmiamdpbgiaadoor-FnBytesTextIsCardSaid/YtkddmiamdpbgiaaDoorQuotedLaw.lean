/- The law's walk: the package's literal of bytes is the reference's. -/
import Derived.Test.YtkddmiamdpbgiaaDoorSpecQuoted
import Derived.Lib.LaidPrint
namespace Go.Proofs.YtkddmiamdpbgiaaDoor
open Go.RowKit Go.Shelf
theorem prints_of_reads {W : World} (h20 : Lib.VarReads Tryd.prog W "strconv.isPrint16" (Lib.sliceData .u16 Lib.goPrintTabs.p16)) (h21 : Lib.VarReads Tryd.prog W "strconv.isNotPrint16" (Lib.sliceData .u16 Lib.goPrintTabs.n16))
    (h22 : Lib.VarReads Tryd.prog W "strconv.isPrint32" (Lib.sliceData .u32 Lib.goPrintTabs.p32)) (h23 : Lib.VarReads Tryd.prog W "strconv.isNotPrint32" (Lib.sliceData .u16 Lib.goPrintTabs.n32)) :
    Lib.PrintTabsAt 0 1 2 3 Lib.goPrintTabs W :=
  printTabs_of_reads Tryd.lays339 ⟨by kernel_rfl, by kernel_rfl, by kernel_rfl, by kernel_rfl, by kernel_rfl, by kernel_rfl, by kernel_rfl, by kernel_rfl, by kernel_rfl, by kernel_rfl⟩ h20 h21 h22 h23
theorem string_of_bytes (s : ByteArray) (hs : s.size ≤ 2147483647) (w : World) (hT : PTabs w) :
    Calls Tryd.prog 21 #[.string s] w fun e w' => e = .returned (.string (strOfNums (98 :: Lib.quoteZ T s))) ∧ Below w.heap.size w w' := by
  have HT := Lib.hid hT
  clear hT
  go_enter Tryd.func21, Tryd.ntmps21
  go_wp2_with fail
  refine (quote_bytes s hs _ HT.out).mono ?_
  rintro e w1 ⟨rfl, hb⟩
  go_wp2
  go_ret
  exact ⟨rfl, hb⟩
theorem bytes_text (s : ByteArray) (hs : s.size ≤ 2147483647) (w : World) (hT : PTabs w) :
    Calls Tryd.prog 13 #[.string s] w fun e w' => e = .returned (.string (strOfNums (98 :: Lib.quoteZ T s))) ∧ Below w.heap.size w w' := by
  have HT := Lib.hid hT
  clear hT
  go_enter Tryd.func13, Tryd.ntmps13
  go_wp2_with fail
  refine (string_of_bytes s hs _ HT.out).mono ?_
  rintro e w1 ⟨rfl, hb⟩
  go_wp2
  go_ret
  exact ⟨rfl, hb⟩
theorem bytes_text_is (s : ByteArray) (w : World) (hs : s.size ≤ maxLen) (hT : Tabs w) (hP : Lib.PrintTabsAt 0 1 2 3 Lib.goPrintTabs w) :
    Calls Tryd.prog 5 #[.string s] w fun e w' => e = .returned (.bool true) ∧ Below w.heap.size w w' := by
  have HT : Hid (PTabs w) := ⟨hP, hT⟩
  clear hT hP
  by_cases h : s.size ≤ 2147483647
  · have hd : decide ((2147483647 : Int) < (s.size : Int)) = false := by simp; omega
    go_enter Tryd.func5, Tryd.ntmps5
    go_wp2_with fail
    refine (bytes_text s h _ HT.out).mono ?_
    obtain ⟨X, hX⟩ : ∃ X, X = strOfNums (98 :: Lib.quoteZ T s) := ⟨_, rfl⟩
    rw [← hX]
    rintro e w1 ⟨rfl, hb⟩
    have HTr := Lib.hid (ptabs_below HT.out hb)
    have HX := Lib.hid hX
    clear hX
    go_wp2_with fail
    refine (spec_quoted s h _ HTr.out).mono ?_
    unfold QuotedPost
    rw [← HX.out]
    rintro e w2 ⟨rfl, hb2⟩
    have hbn := hb.trans (hb2.mono hb.size)
    clear hb hb2
    go_wp2
    go_ret
    exact ⟨rfl, hbn⟩
  · have hd : decide ((2147483647 : Int) < (s.size : Int)) = true := by simp; omega
    go_enter Tryd.func5, Tryd.ntmps5
    go_wp2
    go_ret
    exact ⟨rfl, Below.refl _ _⟩
end Go.Proofs.YtkddmiamdpbgiaaDoor
