/- The package's own door to join, and the thin package's. -/
import Derived.Test.YteibkaonofkcbaaGreatDoorJoinS
namespace Go.Proofs.YteibkaonofkcbaaGreatDoor
open Go.RowKit
attribute [local go_sem ↓] Go.wp_at_zero Go.wp_at_succ
theorem TupAt.ptr {w : World} {G n c : Nat} {ts : List ByteArray} (h : TupAt w G n c ts) : G < w.heap.size := by
  have h1 := h.one
  rw [← h.len] at h1
  exact World.block_lt_of_cell? w _ (h.at_ 0 _ (List.getElem?_eq_getElem (by omega)))
set_option maxHeartbeats 1600000 in
theorem zz_call_join (p : ByteArray) (A ca G n c : Nat) (ts : List ByteArray) (w : World) (hp : p.size ≤ 1000) (hn : n ≤ 2001) (hj : (joinL p.data.toList ts).length ≤ 1000)
    (hA : w.cell? ⟨A, 0, none⟩ = some (.iface 56 (.slice (some ⟨G, 0, none⟩) n c))) (hT : TupAt w G n c ts) :
    Calls Tryz.prog 21 #[.string ⟨#[106, 111, 105, 110]⟩, .func (.func 23) #[] #[], .string p, .slice (some ⟨A, 0, none⟩) 1 ca] w (JoinPost p ts w) := by
  have hAl : A < w.heap.size := World.block_lt_of_cell? w _ hA
  have HA := Lib.hid hA
  have HT := Lib.hid hT
  have HJ := Lib.hid hj
  clear hA hT hj
  go_enter Tryz.func21, Tryz.ntmps21
  go_wp2_with fail
  refine (new_builtin _ _ _).mono ?_
  rintro e w1 ⟨b, rfl, hB, hb⟩
  have HB := Lib.hid hB
  clear hB
  go_wp2_with fail
  refine (bind_recv _ _ b p _ HB.out).mono ?_
  rintro e w2 ⟨b2, rfl, hB2, hb2⟩
  have HB2 := Lib.hid hB2
  have hbn := hb.trans (hb2.mono hb.size)
  have HBN := Lib.hid hbn
  clear hB2 HB hb hb2 hbn
  go_wp2_with fail
  refine (string_join p _ _ b2 A ca G n c ts _ hp hn HJ.out HB2.out ((HBN.out.cell (p := ⟨A, 0, none⟩) hAl).trans HA.out) (HT.out.below HBN.out)).mono ?_
  rintro e w3 ⟨rfl, hb3⟩
  have HB3 := Lib.hid (HBN.out.trans (hb3.mono HBN.out.size))
  clear hb3 HB2
  go_wp2
  go_ret2
  exact ⟨rfl, HB3.out⟩
set_option maxHeartbeats 1600000 in
theorem zz_join_pub (p : ByteArray) (A ca G n c : Nat) (ts : List ByteArray) (w : World) (hp : p.size ≤ 1000) (hn : n ≤ 2001) (hj : (joinL p.data.toList ts).length ≤ 1000)
    (hA : w.cell? ⟨A, 0, none⟩ = some (.iface 56 (.slice (some ⟨G, 0, none⟩) n c))) (hT : TupAt w G n c ts) :
    Calls Tryz.prog 16 #[.string p, .slice (some ⟨A, 0, none⟩) 1 ca] w (JoinPost p ts w) := by
  have HC := Lib.hid (zz_call_join p A ca G n c ts w hp hn hj hA hT)
  clear hA hT hj
  go_enter Tryz.func16, Tryz.ntmps16
  go_wp2_with fail
  refine HC.out.mono ?_
  rintro e w3 ⟨rfl, hb3⟩
  have HB3 := Lib.hid hb3
  clear hb3
  go_wp2
  go_ret2
  exact ⟨rfl, HB3.out⟩
def TextJPost (p : ByteArray) (ts : List ByteArray) (w : World) (e : Ending) (w' : World) : Prop :=
  e = .returned (.tuple #[.string ⟨(joinL p.data.toList ts).toArray⟩, .bool true]) ∧ Below w.heap.size w w'
set_option maxHeartbeats 1600000 in
theorem text_join (p : ByteArray) (a : Option Addr) (n c : Nat) (ts : List ByteArray) (w : World) (hp : p.size ≤ 1000) (hn : n ≤ 2000) (hj : (joinL p.data.toList ts).length ≤ 1000) (hne : ts ≠ []) (h : TxtAt w a ts) (hl : ts.length = n) :
    Calls Tryz.prog 8 #[.string p, .slice a n c] w (TextJPost p ts w) := by
  have HT := Lib.hid (texts_any a n c ts w h hl hn)
  have HJ := Lib.hid hj
  have HN := Lib.hid hne
  have HLE := Lib.hid hl
  clear h hj hne hl
  go_enter Tryz.func8, Tryz.ntmps8
  go_wp2_with fail
  refine HT.out.mono ?_
  rintro e w1 ⟨v, rfl, hr, hb1⟩
  obtain ⟨G, c1, rfl, ht⟩ := hr.tup HN.out
  rw [HLE.out] at ht ⊢
  have HT1 := Lib.hid ht
  have HB1 := Lib.hid hb1
  clear hr ht hb1 HT
  go_wp2_with fail
  have HB2 := Lib.hid ((Below.refl w1.heap.size w1).alloc (Nat.le_refl _) (.cells #[.iface 56 (.slice (some ⟨G, 0, none⟩) n c1)] 49))
  refine (zz_join_pub p _ _ G n c1 ts _ hp (by omega) HJ.out (((Blk.new w1 49 _).cell 0).trans rfl) (HT1.out.below HB2.out)).mono ?_
  rintro e w3 ⟨rfl, hb3⟩
  have HB3 := Lib.hid ((HB1.out.trans (HB2.out.mono HB1.out.size)).trans (hb3.mono (Nat.le_trans HB1.out.size HB2.out.size)))
  clear hb3
  go_wp2_with fail
  refine (of_text _ _).mono ?_
  unfold AsStrPost
  rintro e w4 ⟨rfl, rfl⟩
  go_wp2
  go_ret2
  exact ⟨rfl, HB3.out⟩
end Go.Proofs.YteibkaonofkcbaaGreatDoor
