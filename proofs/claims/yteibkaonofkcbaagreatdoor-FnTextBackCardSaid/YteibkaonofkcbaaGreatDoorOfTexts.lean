/- A list of texts told as a row of texts. -/
import Derived.Test.YteibkaonofkcbaaGreatDoorTextsV
namespace Go.Proofs.YteibkaonofkcbaaGreatDoor
open Go.RowKit
theorem blk_three3 {w : World} {g : Nat} {t : TypeId} {a b c : Value} (h : Blk w g t #[a, b, c]) : w.cell? ⟨g, 0, none⟩ = some a ∧ w.cell? ⟨g, 1, none⟩ = some b ∧ w.cell? ⟨g, 2, none⟩ = some c ∧ w.frozen? ⟨g, 0, none⟩ = false ∧ w.frozen? ⟨g, 1, none⟩ = false ∧ w.frozen? ⟨g, 2, none⟩ = false := ⟨(h.cell 0).trans rfl, (h.cell 1).trans rfl, (h.cell 2).trans rfl, h.frozen 0, h.frozen 1, h.frozen 2⟩
def ListBT (w : World) (L : Nat) (v : Value) : Prop := Blk w L 71 #[v, .bool false, .int .u32 0]
theorem list_lenT (L n c : Nat) (a : Option Addr) (w : World) (h : ListBT w L (.slice a n c)) :
    Calls Tryz.prog 19 #[.pointer (some ⟨L, 0, none⟩)] w fun e w' => e = .returned (.int .i64 (n : Int)) ∧ w = w' := by
  obtain ⟨c0, c1, c2, f0, f1, f2⟩ := blk_three3 h
  clear h
  go_enter Tryz.func19, Tryz.ntmps19
  go_wp2
  go_ret
  exact ⟨rfl, rfl⟩
theorem list_indexT (L n c g i : Nat) (u : ByteArray) (w : World) (h : ListBT w L (.slice (some ⟨g, 0, none⟩) n c)) (hi : i < n) (hn : n ≤ 2000) (hu : w.cell? ⟨g, i, none⟩ = some (txV u)) :
    Calls Tryz.prog 20 #[.pointer (some ⟨L, 0, none⟩), .int .i64 (i : Int)] w fun e w' => e = .returned (.iface 60 (.string u)) ∧ w = w' := by
  obtain ⟨c0, c1, c2, f0, f1, f2⟩ := blk_three3 h
  have hi0 : (0 : Int) ≤ (i : Int) := by omega
  have hi1 : (i : Int) < (n : Int) := by omega
  unfold txV at hu
  clear h
  go_enter Tryz.func20, Tryz.ntmps20
  go_wp2
  go_ret
  exact ⟨rfl, rfl⟩
@[go_sem] theorem Tryz.tlL (v : Value) (w : World) : (Instr.typeAssert (.iface 61 v) 49 61 true).run Tryz.prog w = .ok (.tuple #[v, .bool true]) w := by kernel_rfl
@[go_sem] theorem Tryz.tlS (v : Value) (w : World) : (Instr.typeAssert (.iface 60 v) 49 60 true).run Tryz.prog w = .ok (.tuple #[v, .bool true]) w := by kernel_rfl
def OfTextsPost (ts : List ByteArray) (w : World) (e : Ending) (w' : World) : Prop := ∃ v, e = .returned (.tuple #[v, .bool true]) ∧ RowT w' w.heap.size v ts ∧ Below w.heap.size w w'
set_option maxRecDepth 20000 in
set_option maxHeartbeats 4000000 in
theorem of_texts (L n c : Nat) (a : Option Addr) (ts : List ByteArray) (w : World) (hL : ListBT w L (.slice a n c)) (h : ValAtT w a ts) (hn : ts.length = n) (hl : n ≤ 2000) :
    Calls Tryz.prog 13 #[.iface 61 (.pointer (some ⟨L, 0, none⟩)), .nilIface] w (OfTextsPost ts w) := by
  have H := Lib.hid h
  have HN := Lib.hid hn
  have HL := Lib.hid hL
  clear h hn hL
  go_enter Tryz.func13, Tryz.ntmps13
  go_wp2_with fail
  refine (list_lenT L n c a _ HL.out).mono ?_
  rintro e w' ⟨rfl, rfl⟩
  go_wp2_with fail
  go_loopg [4, 7, 8, 9, 23] n (fun k ov _ _ _ iv wr => ∃ i : Nat, iv = .int .i64 (i : Int) ∧ k + i = n ∧ Hid (RowT wr w.heap.size ov (ts.take i)) ∧ Hid (Below w.heap.size w wr))
  case atStart => exact ⟨0, rfl, rfl, RowT.nil _ _, Below.refl _ _⟩
  case round =>
    obtain ⟨i, rfl, hk, hrow, hbel⟩ := hrel
    by_cases hin : i < n
    · have hd : decide ((i : Int) < (n : Int)) = true := by simp; omega
      have hit : i < ts.length := by rw [HN.out]; exact hin
      obtain ⟨g, rfl, hc⟩ := H.out.below hbel.out i (ts[i]'hit) (List.getElem?_eq_getElem hit)
      obtain ⟨t, ht⟩ : ∃ t, t = ts[i]'hit := ⟨_, rfl⟩
      rw [← ht] at hc
      have HT : Hid (ts.take (i + 1) = ts.take i ++ [t]) := by
        unfold Hid
        rw [List.take_succ_eq_append_getElem hit, ht]
      have hts : (ts.take i).length ≤ 10000 := by rw [List.length_take]; omega
      have HIX := Lib.hid (list_indexT L n c g i t wr (HL.out.below hbel.out HL.out.lt) hin hl hc)
      clear ht hc
      go_wp2_with fail
      refine HIX.out.mono ?_
      rintro e w' ⟨rfl, rfl⟩
      go_wp2_with (at_builtin; refine wpList_append_s rfl (.tmp 33) (.tmp 35) rfl _ w.heap.size _ (ts.take i) hrow.out rfl t rfl rfl hts hbel.out.size ?_; intro v6 w6 hr6 hb6; have HB6 := Lib.hid (hbel.out.trans hb6); rw [← HT.out] at hr6; have HR6 := Lib.hid hr6; clear hr6 hb6)
      go_roundg (n - (i + 1))
      case measure => omega
      case rel => exact ⟨i + 1, by go_num, by omega, HR6, HB6⟩
    · obtain rfl : i = n := by omega
      have hd : decide ((i : Int) < (i : Int)) = false := by simp
      have HB9 := Lib.hid hbel.out
      have hr := hrow.out
      rw [← HN.out, List.take_length] at hr
      have HR9 := Lib.hid hr
      clear hr
      go_wp2
      go_ret2
      exact ⟨_, rfl, HR9.out, HB9.out⟩
def AsStrPost (t : ByteArray) (w : World) (e : Ending) (w' : World) : Prop := e = .returned (.tuple #[.string t, .bool true]) ∧ w = w'
theorem as_string (t : ByteArray) (w : World) : Calls Tryz.prog 33 #[.iface 60 (.string t)] w (AsStrPost t w) := by
  go_enter Tryz.func33, Tryz.ntmps33
  go_wp2
  go_ret2
  exact ⟨rfl, rfl⟩
theorem of_text (t : ByteArray) (w : World) : Calls Tryz.prog 15 #[.iface 60 (.string t), .nilIface] w (AsStrPost t w) := by
  go_enter Tryz.func15, Tryz.ntmps15
  go_wp2
  go_ret2
  exact ⟨rfl, rfl⟩
end Go.Proofs.YteibkaonofkcbaaGreatDoor
