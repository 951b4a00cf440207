/- The kit's contracts of Go's library at this translation, laid by the kit's own tool: Tryd.utf8_RuneStart, Tryd.utf8_RuneCountInString, Tryd.strconv_IsPrint_latin, Tryd.strconv_IsPrint_16, Tryd.strconv_IsPrint_32, Tryd.strconv_IsPrint, Tryd.strings_LastIndex_one, Tryd.strings_LastIndex_empty, Tryd.strings_LastIndex_longer, Tryd.strings_LastIndex_whole, Tryd.strings_LastIndex_hash, Tryd.strings_LastIndex, Tryd.utf8_DecodeRuneInString_ascii, Tryd.utf8_RuneCountInString_ascii, Tryd.utf8_decodeRuneInStringSlow, Tryd.utf8_DecodeRuneInString, Tryd.utf8_DecodeLastRuneInString. -/
import Derived.Shelf.Small.Utf8
import Derived.Shelf.Utf8.RuneCount
import Derived.Shelf.Strconv.Bsearch
import Derived.Shelf.Strconv.IsPrint
import Derived.Shelf.Strconv.IsPrint16
import Derived.Shelf.Strconv.IsPrint32
import Derived.Shelf.Strings.LastIndex
import Derived.Shelf.Strings.LastIndexAll
import Derived.Shelf.Unicode.Decode
import Derived.Shelf.Strings.RuneCount
import Derived.Shelf.Unicode.DecodeSlow
import Derived.Shelf.Unicode.DecodeAny
import Derived.Shelf.Unicode.DecodeLast
import Derived.Test.YtkddmiamdpbgiaaDoorProg
namespace Go.Proofs
open Go.Shelf
def Tryd.lays120_ren : Go.Shelf.Ren := ⟨fun | 120 => 47 | n => n, fun | 5 => 5 | 4 => 4 | n => n, fun | n => n⟩
theorem Tryd.lays120 : Go.Proofs.Lays.n120 Tryd.prog Tryd.lays120_ren := {
  mixed := by kernel_rfl
  f120 := Tryd.func47.trans (congrArg some (by kernel_rfl))
  t4 := Tryd.underlying4
  a4 := Tryd.isAgg4
  z4 := Tryd.sizeOf4
  v4 := Tryd.zeroValue4
  t5 := Tryd.underlying5
  a5 := Tryd.isAgg5
  z5 := Tryd.sizeOf5
  v5 := Tryd.zeroValue5 }
theorem Tryd.utf8_RuneStart (b : Int) (w : World) (h0 : 0 ≤ b) (h1 : b < 256) :
    Calls Tryd.prog 47 #[.int .u8 b] w fun e w' => e = .returned (.bool (Lib.runeStart b)) ∧ w' = w := Any.utf8_RuneStart Tryd.lays120 b w h0 h1
def Tryd.lays195_ren : Go.Shelf.Ren := ⟨fun | 195 => 38 | n => n, fun | 9 => 9 | 3 => 3 | 0 => 0 | 4 => 4 | n => n, fun | n => n⟩
theorem Tryd.lays195 : Go.Proofs.Lays.n195 Tryd.prog Tryd.lays195_ren := {
  mixed := by kernel_rfl
  f195 := Tryd.func38.trans (congrArg some (by kernel_rfl))
  t0 := Tryd.underlying0
  a0 := Tryd.isAgg0
  z0 := Tryd.sizeOf0
  v0 := Tryd.zeroValue0
  t3 := Tryd.underlying3
  a3 := Tryd.isAgg3
  z3 := Tryd.sizeOf3
  v3 := Tryd.zeroValue3
  t4 := Tryd.underlying4
  a4 := Tryd.isAgg4
  z4 := Tryd.sizeOf4
  v4 := Tryd.zeroValue4
  t9 := Tryd.underlying9
  a9 := Tryd.isAgg9
  z9 := Tryd.sizeOf9
  v9 := Tryd.zeroValue9 }
open Go.RowKit in
theorem Tryd.utf8_RuneCountInString (s : ByteArray) (w : World) (hs : s.size < 9223372036854775807) :
    Calls Tryd.prog 38 #[.string s] w fun e w' => e = .returned (.int .i64 (Lib.runeCount s)) ∧ ∃ pos, w' = w.iter s pos := Any.utf8_RuneCountInString Tryd.lays195 s w hs
def Tryd.lays339_ren : Go.Shelf.Ren := ⟨fun | 339 => 23 | 345 => 32 | 346 => 33 | n => n, fun | 21 => 21 | 4 => 4 | 49 => 50 | 234 => 51 | 131 => 52 | 3 => 3 | 0 => 0 | 51 => 54 | 236 => 55 | 46 => 57 | n => n, fun | 20 => 0 | 21 => 1 | 22 => 2 | 23 => 3 | n => n⟩
theorem Tryd.lays339 : Go.Proofs.Lays.n339 Tryd.prog Tryd.lays339_ren := {
  mixed := by kernel_rfl
  f339 := Tryd.func23.trans (congrArg some (by kernel_rfl))
  f345 := Tryd.func32.trans (congrArg some (by kernel_rfl))
  f346 := Tryd.func33.trans (congrArg some (by kernel_rfl))
  t0 := Tryd.underlying0
  a0 := Tryd.isAgg0
  z0 := Tryd.sizeOf0
  v0 := Tryd.zeroValue0
  t3 := Tryd.underlying3
  a3 := Tryd.isAgg3
  z3 := Tryd.sizeOf3
  v3 := Tryd.zeroValue3
  t4 := Tryd.underlying4
  a4 := Tryd.isAgg4
  z4 := Tryd.sizeOf4
  v4 := Tryd.zeroValue4
  t21 := Tryd.underlying21
  a21 := Tryd.isAgg21
  z21 := Tryd.sizeOf21
  v21 := Tryd.zeroValue21
  t46 := Tryd.underlying57
  a46 := Tryd.isAgg57
  z46 := Tryd.sizeOf57
  v46 := Tryd.zeroValue57
  t49 := Tryd.underlying50
  a49 := Tryd.isAgg50
  z49 := Tryd.sizeOf50
  v49 := Tryd.zeroValue50
  t51 := Tryd.underlying54
  a51 := Tryd.isAgg54
  z51 := Tryd.sizeOf54
  v51 := Tryd.zeroValue54
  t131 := Tryd.underlying52
  a131 := Tryd.isAgg52
  z131 := Tryd.sizeOf52
  v131 := Tryd.zeroValue52
  t234 := Tryd.underlying51
  a234 := Tryd.isAgg51
  z234 := Tryd.sizeOf51
  v234 := Tryd.zeroValue51
  t236 := Tryd.underlying55
  a236 := Tryd.isAgg55
  z236 := Tryd.sizeOf55
  v236 := Tryd.zeroValue55
  g20 := by kernel_rfl
  g21 := by kernel_rfl
  g22 := by kernel_rfl
  g23 := by kernel_rfl }
open Go.RowKit in
theorem Tryd.strconv_IsPrint_latin (r : Int) (w : World) (hr : r ≤ 255) :
    Calls Tryd.prog 23 #[.int .i32 r] w fun e w' => e = .returned (.bool (Lib.isPrintLatin r)) ∧ w' = w := Any.strconv_IsPrint_latin Tryd.lays339 r w hr
open Go.RowKit in
theorem Tryd.strconv_IsPrint_16 (T : Lib.PrintTabs) (r : Nat) (w : World) (h1 : 255 < r) (h2 : r < 65536) (hT : Lib.PrintTabsAt 0 1 2 3 T w) :
    Calls Tryd.prog 23 #[.int .i32 r] w fun e w' => e = .returned (.bool (Lib.isPrintR T r)) ∧ ∃ q, w' = w.drewN q := Any.strconv_IsPrint_16 Tryd.lays339 T r w h1 h2 hT
open Go.RowKit in
theorem Tryd.strconv_IsPrint_32 (T : Lib.PrintTabs) (r : Nat) (w : World) (h1 : 65535 < r) (h2 : r < 2147483648) (hT : Lib.PrintTabsAt 0 1 2 3 T w) :
    Calls Tryd.prog 23 #[.int .i32 r] w fun e w' => e = .returned (.bool (Lib.isPrintR T r)) ∧ ∃ q, w' = w.drewN q := Any.strconv_IsPrint_32 Tryd.lays339 T r w h1 h2 hT
open Go.RowKit in
theorem Tryd.strconv_IsPrint (T : Lib.PrintTabs) (r : Int) (w : World) (hlo : -2147483648 ≤ r) (hhi : r ≤ 2147483647) (hT : Lib.PrintTabsAt 0 1 2 3 T w) :
    Calls Tryd.prog 23 #[.int .i32 r] w fun e w' => e = .returned (.bool (Lib.isPrintR T r)) ∧ ∃ q, w' = w.drewN q := Any.strconv_IsPrint Tryd.lays339 T r w hlo hhi hT
def Tryd.lays148_ren : Go.Shelf.Ren := ⟨fun | 148 => 37 | 222 => 44 | 223 => 45 | 269 => 52 | n => n, fun | 9 => 9 | 3 => 3 | 4 => 4 | 5 => 5 | 146 => 99 | 51 => 54 | 46 => 57 | n => n, fun | n => n⟩
theorem Tryd.lays148 : Go.Proofs.Lays.n148 Tryd.prog Tryd.lays148_ren := {
  mixed := by kernel_rfl
  f148 := Tryd.func37.trans (congrArg some (by kernel_rfl))
  f222 := Tryd.func44.trans (congrArg some (by kernel_rfl))
  f223 := Tryd.func45.trans (congrArg some (by kernel_rfl))
  f269 := Tryd.func52.trans (congrArg some (by kernel_rfl))
  t3 := Tryd.underlying3
  a3 := Tryd.isAgg3
  z3 := Tryd.sizeOf3
  v3 := Tryd.zeroValue3
  t4 := Tryd.underlying4
  a4 := Tryd.isAgg4
  z4 := Tryd.sizeOf4
  v4 := Tryd.zeroValue4
  t5 := Tryd.underlying5
  a5 := Tryd.isAgg5
  z5 := Tryd.sizeOf5
  v5 := Tryd.zeroValue5
  t9 := Tryd.underlying9
  a9 := Tryd.isAgg9
  z9 := Tryd.sizeOf9
  v9 := Tryd.zeroValue9
  t46 := Tryd.underlying57
  a46 := Tryd.isAgg57
  z46 := Tryd.sizeOf57
  v46 := Tryd.zeroValue57
  t51 := Tryd.underlying54
  a51 := Tryd.isAgg54
  z51 := Tryd.sizeOf54
  v51 := Tryd.zeroValue54
  t146 := Tryd.underlying99
  a146 := Tryd.isAgg99
  z146 := Tryd.sizeOf99
  v146 := Tryd.zeroValue99 }
open Go.RowKit Go.Lib in
theorem Tryd.strings_LastIndex_one (s sub : ByteArray) (h1 : sub.size = 1) (hs : s.size < 4611686018427387904) (w : World) :
    Calls Tryd.prog 37 #[.string s, .string sub] w fun e w' => e = .returned (.int .i64 (Lib.lastIndexByte s ((sub[0]'(by omega)).toNat : Int))) ∧ w' = w := Any.strings_LastIndex_one Tryd.lays148 s sub h1 hs w
open Go.RowKit Go.Lib in
theorem Tryd.strings_LastIndex_empty (s sub : ByteArray) (h0 : sub.size = 0) (w : World) :
    Calls Tryd.prog 37 #[.string s, .string sub] w fun e w' => e = .returned (.int .i64 s.size) ∧ w' = w := Any.strings_LastIndex_empty Tryd.lays148 s sub h0 w
open Go.RowKit Go.Lib in
theorem Tryd.strings_LastIndex_longer (s sub : ByteArray) (h2 : 2 ≤ sub.size) (hl : s.size < sub.size) (w : World) :
    Calls Tryd.prog 37 #[.string s, .string sub] w fun e w' => e = .returned (.int .i64 (-1)) ∧ w' = w := Any.strings_LastIndex_longer Tryd.lays148 s sub h2 hl w
open Go.RowKit Go.Lib in
theorem Tryd.strings_LastIndex_whole (s sub : ByteArray) (h2 : 2 ≤ sub.size) (hl : sub.size = s.size) (w : World) :
    Calls Tryd.prog 37 #[.string s, .string sub] w fun e w' => e = .returned (.int .i64 (if sub = s then 0 else -1)) ∧ w' = w := Any.strings_LastIndex_whole Tryd.lays148 s sub h2 hl w
open Go.RowKit Go.Lib in
theorem Tryd.strings_LastIndex_hash (s sub : ByteArray) (h2 : 2 ≤ sub.size) (hl : sub.size < s.size) (hs : s.size < 4611686018427387904) (w : World) :
    Calls Tryd.prog 37 #[.string s, .string sub] w fun e w' => e = .returned (.int .i64 (Lib.lastIndex s.data.toList sub.data.toList)) ∧ w' = w := Any.strings_LastIndex_hash Tryd.lays148 s sub h2 hl hs w
open Go.RowKit Go.Lib in
theorem Tryd.strings_LastIndex (s sub : ByteArray) (hs : s.size < 4611686018427387904) (w : World) :
    Calls Tryd.prog 37 #[.string s, .string sub] w fun e w' => e = .returned (.int .i64 (Lib.lastIndex s.data.toList sub.data.toList)) ∧ w' = w := Any.strings_LastIndex Tryd.lays148 s sub hs w
def Tryd.lays197_ren : Go.Shelf.Ren := ⟨fun | 197 => 16 | 260 => 27 | n => n, fun | 9 => 9 | 21 => 21 | 3 => 3 | 4 => 4 | 5 => 5 | 105 => 34 | 119 => 69 | 0 => 0 | 46 => 57 | 139 => 72 | 138 => 71 | n => n, fun | 3 => 4 | 4 => 5 | n => n⟩
theorem Tryd.lays197 : Go.Proofs.Lays.n197 Tryd.prog Tryd.lays197_ren := {
  mixed := by kernel_rfl
  f197 := Tryd.func16.trans (congrArg some (by kernel_rfl))
  f260 := Tryd.func27.trans (congrArg some (by kernel_rfl))
  t0 := Tryd.underlying0
  a0 := Tryd.isAgg0
  z0 := Tryd.sizeOf0
  v0 := Tryd.zeroValue0
  t3 := Tryd.underlying3
  a3 := Tryd.isAgg3
  z3 := Tryd.sizeOf3
  v3 := Tryd.zeroValue3
  t4 := Tryd.underlying4
  a4 := Tryd.isAgg4
  z4 := Tryd.sizeOf4
  v4 := Tryd.zeroValue4
  t5 := Tryd.underlying5
  a5 := Tryd.isAgg5
  z5 := Tryd.sizeOf5
  v5 := Tryd.zeroValue5
  t9 := Tryd.underlying9
  a9 := Tryd.isAgg9
  z9 := Tryd.sizeOf9
  v9 := Tryd.zeroValue9
  t21 := Tryd.underlying21
  a21 := Tryd.isAgg21
  z21 := Tryd.sizeOf21
  v21 := Tryd.zeroValue21
  t46 := Tryd.underlying57
  a46 := Tryd.isAgg57
  z46 := Tryd.sizeOf57
  v46 := Tryd.zeroValue57
  t105 := Tryd.underlying34
  a105 := Tryd.isAgg34
  z105 := Tryd.sizeOf34
  v105 := Tryd.zeroValue34
  t119 := Tryd.underlying69
  a119 := Tryd.isAgg69
  z119 := Tryd.sizeOf69
  t138 := Tryd.underlying71
  a138 := Tryd.isAgg71
  z138 := Tryd.sizeOf71
  v138 := Tryd.zeroValue71
  t139 := Tryd.underlying72
  a139 := Tryd.isAgg72
  z139 := Tryd.sizeOf72
  v139 := Tryd.zeroValue72
  g3 := by kernel_rfl
  g4 := by kernel_rfl }
open Go.RowKit Go.Lib in
theorem Tryd.utf8_DecodeRuneInString_ascii (s : ByteArray) (x : UInt8) (w : World) (h0 : s.data.toList[0]? = some x) (hx : x.toNat < 128) :
    Calls Tryd.prog 16 #[.string s] w fun e w' => e = .returned (.tuple #[.int .i32 x.toNat, .int .i64 1]) ∧ w' = w := Any.utf8_DecodeRuneInString_ascii Tryd.lays197 s x w h0 hx
open Go.RowKit Go.Lib in
theorem Tryd.utf8_RuneCountInString_ascii (s : ByteArray) (w : World) (hs : s.size < 4294967281) (hascii : ∀ (j : Nat) b, s.data.toList[j]? = some b → b.toNat < 128) :
    Calls Tryd.prog 38 #[.string s] w fun e w' => e = .returned (.int .i64 s.size) ∧ w' = w.iter s s.size := Any.utf8_RuneCountInString_ascii Tryd.lays195 s w hs hascii
def Tryd.lays260_ren : Go.Shelf.Ren := ⟨fun | 260 => 27 | n => n, fun | 9 => 9 | 21 => 21 | 3 => 3 | 4 => 4 | 5 => 5 | 119 => 69 | 0 => 0 | 46 => 57 | 139 => 72 | 138 => 71 | n => n, fun | 3 => 4 | 4 => 5 | n => n⟩
theorem Tryd.lays260 : Go.Proofs.Lays.n260 Tryd.prog Tryd.lays260_ren := {
  mixed := by kernel_rfl
  f260 := Tryd.func27.trans (congrArg some (by kernel_rfl))
  t0 := Tryd.underlying0
  a0 := Tryd.isAgg0
  z0 := Tryd.sizeOf0
  v0 := Tryd.zeroValue0
  t3 := Tryd.underlying3
  a3 := Tryd.isAgg3
  z3 := Tryd.sizeOf3
  v3 := Tryd.zeroValue3
  t4 := Tryd.underlying4
  a4 := Tryd.isAgg4
  z4 := Tryd.sizeOf4
  v4 := Tryd.zeroValue4
  t5 := Tryd.underlying5
  a5 := Tryd.isAgg5
  z5 := Tryd.sizeOf5
  v5 := Tryd.zeroValue5
  t9 := Tryd.underlying9
  a9 := Tryd.isAgg9
  z9 := Tryd.sizeOf9
  v9 := Tryd.zeroValue9
  t21 := Tryd.underlying21
  a21 := Tryd.isAgg21
  z21 := Tryd.sizeOf21
  v21 := Tryd.zeroValue21
  t46 := Tryd.underlying57
  a46 := Tryd.isAgg57
  z46 := Tryd.sizeOf57
  v46 := Tryd.zeroValue57
  t119 := Tryd.underlying69
  a119 := Tryd.isAgg69
  z119 := Tryd.sizeOf69
  t138 := Tryd.underlying71
  a138 := Tryd.isAgg71
  z138 := Tryd.sizeOf71
  v138 := Tryd.zeroValue71
  t139 := Tryd.underlying72
  a139 := Tryd.isAgg72
  z139 := Tryd.sizeOf72
  v139 := Tryd.zeroValue72
  g3 := by kernel_rfl
  g4 := by kernel_rfl }
open Go.RowKit Go.Lib in
theorem Tryd.utf8_decodeRuneInStringSlow (s : ByteArray) (w : World) (hT : Lib.Utf8Tabs 4 5 w) :
    Calls Tryd.prog 27 #[.string s] w fun e w' => e = .returned (.tuple #[.int .i32 (Lib.decodeGo s).1, .int .i64 (Lib.decodeGo s).2]) ∧ Below w.heap.size w w' := Any.utf8_decodeRuneInStringSlow Tryd.lays260 s w hT
open Go.RowKit Go.Lib in
theorem Tryd.utf8_DecodeRuneInString (s : ByteArray) (w : World) (hT : Lib.Utf8Tabs 4 5 w) :
    Calls Tryd.prog 16 #[.string s] w fun e w' => e = .returned (.tuple #[.int .i32 (Lib.decodeGo s).1, .int .i64 (Lib.decodeGo s).2]) ∧ Below w.heap.size w w' := Any.utf8_DecodeRuneInString Tryd.lays197 s w hT
def Tryd.lays271_ren : Go.Shelf.Ren := ⟨fun | 271 => 40 | 120 => 47 | 197 => 16 | 260 => 27 | n => n, fun | 9 => 9 | 21 => 21 | 3 => 3 | 4 => 4 | 5 => 5 | 105 => 34 | 119 => 69 | 0 => 0 | 46 => 57 | 139 => 72 | 138 => 71 | n => n, fun | 3 => 4 | 4 => 5 | n => n⟩
theorem Tryd.lays271 : Go.Proofs.Lays.n271 Tryd.prog Tryd.lays271_ren := {
  mixed := by kernel_rfl
  f120 := Tryd.func47.trans (congrArg some (by kernel_rfl))
  f197 := Tryd.func16.trans (congrArg some (by kernel_rfl))
  f260 := Tryd.func27.trans (congrArg some (by kernel_rfl))
  f271 := Tryd.func40.trans (congrArg some (by kernel_rfl))
  t0 := Tryd.underlying0
  a0 := Tryd.isAgg0
  z0 := Tryd.sizeOf0
  v0 := Tryd.zeroValue0
  t3 := Tryd.underlying3
  a3 := Tryd.isAgg3
  z3 := Tryd.sizeOf3
  v3 := Tryd.zeroValue3
  t4 := Tryd.underlying4
  a4 := Tryd.isAgg4
  z4 := Tryd.sizeOf4
  v4 := Tryd.zeroValue4
  t5 := Tryd.underlying5
  a5 := Tryd.isAgg5
  z5 := Tryd.sizeOf5
  v5 := Tryd.zeroValue5
  t9 := Tryd.underlying9
  a9 := Tryd.isAgg9
  z9 := Tryd.sizeOf9
  v9 := Tryd.zeroValue9
  t21 := Tryd.underlying21
  a21 := Tryd.isAgg21
  z21 := Tryd.sizeOf21
  v21 := Tryd.zeroValue21
  t46 := Tryd.underlying57
  a46 := Tryd.isAgg57
  z46 := Tryd.sizeOf57
  v46 := Tryd.zeroValue57
  t105 := Tryd.underlying34
  a105 := Tryd.isAgg34
  z105 := Tryd.sizeOf34
  v105 := Tryd.zeroValue34
  t119 := Tryd.underlying69
  a119 := Tryd.isAgg69
  z119 := Tryd.sizeOf69
  t138 := Tryd.underlying71
  a138 := Tryd.isAgg71
  z138 := Tryd.sizeOf71
  v138 := Tryd.zeroValue71
  t139 := Tryd.underlying72
  a139 := Tryd.isAgg72
  z139 := Tryd.sizeOf72
  v139 := Tryd.zeroValue72
  g3 := by kernel_rfl
  g4 := by kernel_rfl }
open Go.RowKit Go.Lib in
theorem Tryd.utf8_DecodeLastRuneInString (s : ByteArray) (w : World) (hs : s.size ≤ 9223372036854775807) (hT : Lib.Utf8Tabs 4 5 w) :
    Calls Tryd.prog 40 #[.string s] w fun e w' => e = .returned (.tuple #[.int .i32 (Lib.decodeLastL s.data.toList).1, .int .i64 (Lib.decodeLastL s.data.toList).2]) ∧ Below w.heap.size w w' := Any.utf8_DecodeLastRuneInString Tryd.lays271 s w hs hT
end Go.Proofs
