/- string.count called; its answer as a number; two bounds. -/
import Derived.Test.YthoemgnfklhgjaaGreatStrCount
namespace Go.Proofs.YthoemgnfklhgjaaGreat
open Go.RowKit
attribute [local go_sem ↓] Go.wp_at_zero Go.wp_at_succ
set_option maxHeartbeats 1600000 in
theorem zz_call_count (name s t : ByteArray) (A ca : Nat) (s1 s2 : Sc) (w : World) (hs : AsciiT s) (ht : t.size ≤ 60) (h1 : s1.ok) (h2 : s2.ok)
    (hA : w.cell? ⟨A, 0, none⟩ = some (.iface 58 (.string t)) ∧ w.cell? ⟨A, 1, none⟩ = some (sv s1) ∧ w.cell? ⟨A, 2, none⟩ = some (sv s2)) :
    Calls Tryz.prog 34 #[.string name, .func (.func 35) #[] #[], .string s, .slice (some ⟨A, 0, none⟩) 3 ca] w (CountPost (countR s t s1 s2) w) := by
  have hAl : A < w.heap.size := World.block_lt_of_cell? w _ hA.1
  have HA := Lib.hid hA
  clear hA
  go_enter Tryz.func34, Tryz.ntmps34
  go_wp2_with fail
  refine (new_builtin name _ _).mono ?_
  rintro e w1 ⟨b, rfl, hB, hb⟩
  have HB := Lib.hid hB
  clear hB
  go_wp2_with fail
  refine (bind_recv name _ b s _ HB.out).mono ?_
  rintro e w2 ⟨b2, rfl, hB2, hb2⟩
  have HB2 := Lib.hid hB2
  have hbn := hb.trans (hb2.mono hb.size)
  have HBN := Lib.hid hbn
  clear hB2 HB hb hb2 hbn
  go_wp2_with fail
  refine (string_count s t name _ b2 A ca s1 s2 _ hs ht h1 h2 HB2.out ⟨(HBN.out.cell (p := ⟨A, 0, none⟩) hAl).trans HA.out.1, (HBN.out.cell (p := ⟨A, 1, none⟩) hAl).trans HA.out.2.1, (HBN.out.cell (p := ⟨A, 2, none⟩) hAl).trans HA.out.2.2⟩).mono ?_
  rintro e w3 ⟨hr, hb3⟩
  have HB3 := Lib.hid (HBN.out.trans (hb3.mono HBN.out.size))
  clear hb3 HB2
  rcases hr with ⟨n, hn, rfl⟩ | ⟨hn, v, rfl, hv⟩
  · have HN := Lib.hid hn
    clear hn
    go_wp2
    go_ret2
    exact ⟨.inl ⟨n, HN.out, rfl⟩, HB3.out⟩
  · have HN := Lib.hid hn
    have HV := Lib.hid hv
    obtain ⟨k, hk⟩ := hv
    subst hk
    clear hn
    go_wp2
    go_ret2
    exact ⟨.inr ⟨HN.out, _, rfl, HV.out⟩, HB3.out⟩
set_option maxHeartbeats 1600000 in
theorem zz_count_pub (s t : ByteArray) (A ca : Nat) (s1 s2 : Sc) (w : World) (hs : AsciiT s) (ht : t.size ≤ 60) (h1 : s1.ok) (h2 : s2.ok)
    (hA : w.cell? ⟨A, 0, none⟩ = some (.iface 58 (.string t)) ∧ w.cell? ⟨A, 1, none⟩ = some (sv s1) ∧ w.cell? ⟨A, 2, none⟩ = some (sv s2)) :
    Calls Tryz.prog 18 #[.string s, .slice (some ⟨A, 0, none⟩) 3 ca] w (CountPost (countR s t s1 s2) w) := by
  have HZ := Lib.hid (fun name => zz_call_count name s t A ca s1 s2 w hs ht h1 h2 hA)
  clear hA
  go_enter Tryz.func18, Tryz.ntmps18
  go_wp2_with fail
  refine (HZ.out _).mono ?_
  rintro e w3 ⟨hr, hb3⟩
  have HB3 := Lib.hid hb3
  clear hb3
  rcases hr with ⟨n, hn, rfl⟩ | ⟨hn, v, rfl, hv⟩
  · have HN := Lib.hid hn
    clear hn
    go_wp2
    go_ret2
    exact ⟨.inl ⟨n, HN.out, rfl⟩, HB3.out⟩
  · have HN := Lib.hid hn
    have HV := Lib.hid hv
    obtain ⟨k, hk⟩ := hv
    subst hk
    clear hn
    go_wp2
    go_ret2
    exact ⟨.inr ⟨HN.out, _, rfl, HV.out⟩, HB3.out⟩
theorem sint64_small (n : Int) (w : World) :
    Calls Tryz.prog 33 #[.agg #[.int .i64 n, .pointer none]] w fun e w' => e = .returned (.tuple #[.int .i64 n, .bool true]) ∧ Below w.heap.size w w' := by
  go_enter Tryz.func33, Tryz.ntmps33
  go_wp2_with fail
  refine (int_get n none _).mono ?_
  rintro e w1 ⟨rfl, hb⟩
  have hb2 := ((Below.refl w.heap.size w).alloc (Nat.le_refl _) (.cells #[.int .i64 n, .pointer none] 72)).trans (hb.mono (by simp))
  clear hb
  go_wp2
  go_ret2
  exact ⟨rfl, hb2⟩
@[go_sem] theorem Tryz.nilInt (w : World) : (Instr.typeAssert .nilIface 53 72 true).run Tryz.prog w = .ok (.tuple #[.agg #[.int .i64 0, .pointer none], .bool false]) w := by kernel_rfl
theorem of_number (n : Int) (w : World) :
    Calls Tryz.prog 17 #[.iface 72 (.agg #[.int .i64 n, .pointer none]), .nilIface] w fun e w' => e = .returned (.tuple #[.int .i64 n, .bool true]) ∧ Below w.heap.size w w' := by
  have HB := Lib.hid ((Below.refl w.heap.size w).alloc (Nat.le_refl _) (.cells #[.int .i64 n, .pointer none] 72))
  go_enter Tryz.func17, Tryz.ntmps17
  go_wp2_with fail
  refine (sint64_small n _).mono ?_
  rintro e w1 ⟨rfl, hb⟩
  have HB1 := Lib.hid (HB.out.trans (hb.mono (by simp)))
  clear hb
  go_wp2
  go_ret2
  exact ⟨rfl, HB1.out⟩
theorem of_number_no (v : Value) (hv : ErrV v) (w : World) :
    Calls Tryz.prog 17 #[.nilIface, v] w fun e w' => e = .returned (.tuple #[.int .i64 0, .bool false]) ∧ Below w.heap.size w w' := by
  obtain ⟨b, rfl⟩ := hv
  have HB := Lib.hid ((Below.refl w.heap.size w).alloc (Nat.le_refl _) (.cells #[.int .i64 0, .pointer none] 72))
  go_enter Tryz.func17, Tryz.ntmps17
  go_wp2
  go_ret2
  exact ⟨rfl, HB.out⟩
theorem bounds_any (B S n c : Nat) (l : List Sc) (w : World) (hv : ValsAt w B S l) (hn : n = l.length) (hs : ∀ s ∈ l, s.ok) (hl : n ≤ 1000) :
    Calls Tryz.prog 16 #[.slice (some ⟨S, 0, none⟩) n c] w (ScalarsPost l w) := by
  have HS := Lib.hid (scalars_any B S n c l w hv hn hs hl)
  clear hv hs hn
  go_enter Tryz.func16, Tryz.ntmps16
  go_wp2_with fail
  refine HS.out.mono ?_
  rintro e w1 ⟨v, rfl, hown, hb⟩
  have HO := Lib.hid hown
  have HB := Lib.hid hb
  clear hown hb
  go_wp2
  go_ret2
  exact ⟨v, rfl, HO.out, HB.out⟩
end Go.Proofs.YthoemgnfklhgjaaGreat
