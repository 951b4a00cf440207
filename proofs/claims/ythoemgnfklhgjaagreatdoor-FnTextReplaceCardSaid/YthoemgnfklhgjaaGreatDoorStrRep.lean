/- The package's string.replace, called. -/
import Derived.Test.YthoemgnfklhgjaaGreatDoorUnpackI
import Derived.Test.YthoemgnfklhgjaaGreatDoorZzRep
import Derived.Test.YthoemgnfklhgjaaGreatDoorBuiltin
namespace Go.Proofs.YthoemgnfklhgjaaGreatDoor
open Go.RowKit
attribute [local go_sem ↓] Go.wp_at_zero Go.wp_at_succ
def repB (s p q : ByteArray) (n : Int) : ByteArray := ⟨(rep p.data.toList q.data.toList s.data.toList n).toArray⟩
theorem zz_replace (s p q : ByteArray) (n : Int) (w : World) (hs : AsciiT s) (hp : p.size ≤ 60) (hq : q.size ≤ 60) (h1 : -1000 ≤ n) (h2 : n ≤ 1000) :
    Calls Tryz.prog 49 #[.string s, .string p, .string q, .int .i64 n] w fun e w' => e = .returned (.string (repB s p q n)) ∧ Below w.heap.size w w' := by
  by_cases h0 : p.size = 0
  · have hp0 : p = ⟨#[]⟩ := by
      apply ByteArray.ext
      exact Array.eq_empty_of_size_eq_zero h0
    subst hp0
    exact rep_empty s q n w hs hq h1 h2
  · exact rep_full s p q n w hs.1 hp (by omega) hq h1 h2
def CountOk (c : Option Int) : Prop := ∀ n, c = some n → -1000 ≤ n ∧ n ≤ 1000
theorem cnt_ok {c : Option Int} (h : CountOk c) : -1000 ≤ cntOf c ∧ cntOf c ≤ 1000 := by
  cases c with
  | none => exact ⟨by decide, by decide⟩
  | some n => exact h n rfl
def RepArgs (w : World) (A : Nat) (p q : ByteArray) (c : Option Int) : Prop :=
  A < w.heap.size ∧ (w.cell? ⟨A, 0, none⟩ = some (.iface 63 (.string p)) ∧ w.cell? ⟨A, 1, none⟩ = some (.iface 63 (.string q))) ∧ (∀ n, c = some n → w.cell? ⟨A, 2, none⟩ = some (.iface 108 (.agg #[.int .i64 n, .pointer none])))
theorem RepArgs.below {w w' : World} {A : Nat} {p q : ByteArray} {c : Option Int} (h : RepArgs w A p q c) (hb : Below w.heap.size w w') : RepArgs w' A p q c :=
  ⟨Nat.lt_of_lt_of_le h.1 hb.size, ⟨(hb.cell (p := ⟨A, 0, none⟩) h.1).trans h.2.1.1, (hb.cell (p := ⟨A, 1, none⟩) h.1).trans h.2.1.2⟩, fun n hn => (hb.cell (p := ⟨A, 2, none⟩) h.1).trans (h.2.2 n hn)⟩
def RepPost (s p q : ByteArray) (c : Option Int) (w : World) (e : Ending) (w' : World) : Prop := e = .returned (.tuple #[.iface 63 (.string (repB s p q (cntOf c))), .nilIface]) ∧ Below w.heap.size w w'
set_option maxRecDepth 100000 in
set_option maxHeartbeats 4000000 in
theorem string_replace (s p q name : ByteArray) (fn : Value) (b A ca : Nat) (c : Option Int) (w : World) (hs : AsciiT s) (hp : p.size ≤ 60) (hq : q.size ≤ 60) (hc : CountOk c)
    (hB : BuiltinAt w b name fn (.iface 63 (.string s))) (hA : RepArgs w A p q c) :
    Calls Tryz.prog 29 #[.pointer none, .pointer (some ⟨b, 0, none⟩), .slice (some ⟨A, 0, none⟩) (cntN c) ca, .slice none 0 0] w (RepPost s p q c w) := by
  have hAl : A < w.heap.size := hA.1
  have hBl := hB.lt
  have HB := Lib.hid hB
  have HA := Lib.hid hA
  have HS := Lib.hid hs
  obtain ⟨n, hn⟩ : ∃ n, n = cntOf c := ⟨_, rfl⟩
  have hn1 := cnt_ok hc
  rw [← hn] at hn1
  have HN := Lib.hid hn
  have HN1 := Lib.hid hn1
  clear hB hA hs hn hn1 hc
  unfold RepPost
  rw [← HN.out]
  go_enter Tryz.func29, Tryz.ntmps29
  go_wp2_with fail
  refine (recv_of b name fn _ _ HB.out).mono ?_
  rintro e w' ⟨rfl, rfl⟩
  go_wp2_with fail
  have HB0 := Lib.hid ((((Below.refl w.heap.size w).alloc (Nat.le_refl _) (.cells #[.string ⟨#[]⟩] 9)).alloc (by simp) (.cells #[.string ⟨#[]⟩] 9)).alloc (by simp; omega) (.cells #[.int .i64 (-1)] 3))
  refine (name_of b name fn _ _ (HB.out.below HB0.out hBl)).mono ?_
  rintro e w' ⟨rfl, rfl⟩
  go_wp2_with fail
  have hV0 : VarsR ((((w.alloc (.cells #[.string ⟨#[]⟩] 9)).alloc (.cells #[.string ⟨#[]⟩] 9)).alloc (.cells #[.int .i64 (-1)] 3)).alloc (.cells #[.iface 91 (.pointer (some ⟨w.heap.size, 0, none⟩)), .iface 91 (.pointer (some ⟨w.heap.size + 1, 0, none⟩)), .iface 92 (.pointer (some ⟨w.heap.size + 1 + 1, 0, none⟩))] 20)) w.heap.size (.string ⟨#[]⟩) (.string ⟨#[]⟩) (.int .i64 (-1)) :=
    ⟨(((Blk.new w 9 #[.string ⟨#[]⟩]).alloc _).alloc _).alloc _, ((Blk.new_at _ 9 #[.string ⟨#[]⟩] (n := w.heap.size + 1) (by simp)).alloc _).alloc _, (Blk.new_at _ 3 #[.int .i64 (-1)] (n := w.heap.size + 1 + 1) (by simp)).alloc _⟩
  have hP := Blk.new_at (((w.alloc (.cells #[.string ⟨#[]⟩] 9)).alloc (.cells #[.string ⟨#[]⟩] 9)).alloc (.cells #[.int .i64 (-1)] 3)) 20 #[.iface 91 (.pointer (some ⟨w.heap.size, 0, none⟩)), .iface 91 (.pointer (some ⟨w.heap.size + 1, 0, none⟩)), .iface 92 (.pointer (some ⟨w.heap.size + 1 + 1, 0, none⟩))] (n := w.heap.size + 1 + 1 + 1) (by simp)
  have HB1 := Lib.hid (HB0.out.alloc (by simp; omega) (.cells #[.iface 91 (.pointer (some ⟨w.heap.size, 0, none⟩)), .iface 91 (.pointer (some ⟨w.heap.size + 1, 0, none⟩)), .iface 92 (.pointer (some ⟨w.heap.size + 1 + 1, 0, none⟩))] 20))
  have hA1 := HA.out.below HB1.out
  refine (unpack_r name p q c A ca (w.heap.size + 1 + 1 + 1) 3 w.heap.size _ _ _ hA1.2.1 hA1.2.2 ⟨(hP.cell 0).trans rfl, (hP.cell 1).trans rfl, (hP.cell 2).trans rfl⟩ hV0 (by unfold inG; omega) (by unfold inG; omega)).mono ?_
  rintro e w4 ⟨rfl, hv4, ho4⟩
  rw [← HN.out] at hv4
  have hb4 : Below w.heap.size w w4 := HB1.out.trans (ho4.to_below HB1.out.size (fun k _ e => by unfold inG at e; omega))
  have HB4 := Lib.hid hb4
  obtain ⟨x0, x1⟩ := blk_one hv4.a
  obtain ⟨y0, y1⟩ := blk_one hv4.b
  obtain ⟨z0, z1⟩ := blk_one hv4.c
  clear hV0 hP hv4 hb4 ho4 hA1
  go_wp2_with fail
  refine (zz_replace s p q n _ HS.out hp hq HN1.out.1 HN1.out.2).mono ?_
  rintro e w5 ⟨rfl, hb5⟩
  have HB5 := Lib.hid (HB4.out.trans (hb5.mono HB4.out.size))
  clear hb5
  go_wp2
  go_ret2
  exact ⟨rfl, HB5.out⟩
set_option maxHeartbeats 1600000 in
theorem zz_call_rep (name s p q : ByteArray) (A ca : Nat) (c : Option Int) (w : World) (hs : AsciiT s) (hp : p.size ≤ 60) (hq : q.size ≤ 60) (hc : CountOk c) (hA : RepArgs w A p q c) :
    Calls Tryz.prog 28 #[.string name, .func (.func 29) #[] #[], .string s, .slice (some ⟨A, 0, none⟩) (cntN c) ca] w (RepPost s p q c w) := by
  have HA := Lib.hid hA
  clear hA
  go_enter Tryz.func28, Tryz.ntmps28
  go_wp2_with fail
  refine (new_builtin name _ _).mono ?_
  rintro e w1 ⟨b, rfl, hB, hb⟩
  have HB := Lib.hid hB
  clear hB
  go_wp2_with fail
  refine (bind_recv name _ b s _ HB.out).mono ?_
  rintro e w2 ⟨b2, rfl, hB2, hb2⟩
  have HB2 := Lib.hid hB2
  have hbn := hb.trans (hb2.mono hb.size)
  have HBN := Lib.hid hbn
  clear hB2 HB hb hb2 hbn
  go_wp2_with fail
  refine (string_replace s p q name _ b2 A ca c _ hs hp hq hc HB2.out (HA.out.below HBN.out)).mono ?_
  rintro e w3 ⟨rfl, hb3⟩
  have HB3 := Lib.hid (HBN.out.trans (hb3.mono HBN.out.size))
  clear hb3 HB2
  go_wp2
  go_ret2
  exact ⟨rfl, HB3.out⟩
set_option maxHeartbeats 1600000 in
theorem zz_rep_pub (s p q : ByteArray) (A ca : Nat) (c : Option Int) (w : World) (hs : AsciiT s) (hp : p.size ≤ 60) (hq : q.size ≤ 60) (hc : CountOk c) (hA : RepArgs w A p q c) :
    Calls Tryz.prog 15 #[.string s, .slice (some ⟨A, 0, none⟩) (cntN c) ca] w (RepPost s p q c w) := by
  have HZ := Lib.hid (fun name => zz_call_rep name s p q A ca c w hs hp hq hc hA)
  clear hA
  go_enter Tryz.func15, Tryz.ntmps15
  go_wp2_with fail
  refine (HZ.out _).mono ?_
  rintro e w3 ⟨rfl, hb3⟩
  have HB3 := Lib.hid hb3
  clear hb3
  go_wp2
  go_ret2
  exact ⟨rfl, HB3.out⟩
end Go.Proofs.YthoemgnfklhgjaaGreatDoor
