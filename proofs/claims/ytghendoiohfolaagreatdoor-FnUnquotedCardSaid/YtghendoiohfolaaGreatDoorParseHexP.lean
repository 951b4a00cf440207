/- strconv.ParseUint at base 16, of one to eight signs: the public one. -/
import Derived.Test.YtghendoiohfolaaGreatDoorParseHex
namespace Go.Proofs.YtghendoiohfolaaGreatDoor
set_option linter.unusedSimpArgs false
set_option linter.unusedVariables false
set_option linter.unnecessarySimpa false
open Go.RowKit
/-- strconv.ErrSyntax holds an interface. -/
def ErrOk (w : World) : Prop := ∃ ev, w.cell? ⟨4, 0, none⟩ = some ev ∧ (ev = .nilIface ∨ ∃ te pe, ev = .iface te pe)
theorem ErrOk.below {w w' : World} (h : ErrOk w) (hb : Below w.heap.size w w') : ErrOk w' := by
  obtain ⟨ev, h1, h2⟩ := h
  have hl : 4 < w.heap.size := World.block_lt_of_cell? w _ h1
  exact ⟨ev, (hb.cell (p := ⟨_, _, none⟩) hl).trans h1, h2⟩
def HexPost2 (t : ByteArray) (w : World) (e : Ending) (w' : World) : Prop :=
  Below w.heap.size w w' ∧ ((∃ n : Nat, hexV 0 t.data.toList = some n ∧ n < 4294967296 ∧ e = .returned (.tuple #[.int .u64 n, .nilIface])) ∨ (hexV 0 t.data.toList = none ∧ ∃ (n : Int) (tt : TypeId) (p : Addr), e = .returned (.tuple #[.int .u64 n, .iface tt (.pointer (some p))])))
set_option maxHeartbeats 4000000 in
set_option maxRecDepth 100000 in
theorem parse_hex (t : ByteArray) (h1 : 1 ≤ t.size) (h8 : t.size ≤ 8) (w : World) (hE : ErrOk w) :
    Calls Tryz.prog 36 #[.string t, .int .i64 16, .int .i64 0] w (HexPost2 t w) := by
  have HIN := Lib.hid (parse_hex_in t h1 h8 w)
  have HE := Lib.hid hE
  clear hE
  go_enter Tryz.func36, Tryz.ntmps36
  go_wp2_with fail
  refine HIN.out.mono ?_
  rintro e w1 ⟨hb, ⟨n, hn, hlt, rfl⟩ | ⟨hn, rfl⟩⟩
  · have HB := Lib.hid hb
    have HN := Lib.hid hn
    have HLT := Lib.hid hlt
    clear hb hn hlt
    go_wp2
    go_ret2
    exact ⟨HB.out, .inl ⟨n, HN.out, HLT.out, rfl⟩⟩
  · have HB := Lib.hid hb
    have HN := Lib.hid hn
    have HE1 := Lib.hid (HE.out.below hb)
    clear hb hn
    go_wp2_with fail
    obtain ⟨ev, hv, hev⟩ := HE1.out
    refine (AnyPu.strconv_toError_syntax Tryz.lays17pu _ t 16 0 ev w1 (by omega) hv hev).mono ?_
    rintro e w2 ⟨N, rfl, -, -, hb2⟩
    have HB2 := Lib.hid (HB.out.trans (hb2.mono HB.out.size))
    clear hb2 hv hev
    go_wp2
    go_ret2
    exact ⟨HB2.out, .inr ⟨HN.out, _, _, _, rfl⟩⟩
end Go.Proofs.YtghendoiohfolaaGreatDoor
