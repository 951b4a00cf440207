/- string.count. -/
import Derived.Test.YthoemgnfklhgjaaGreatUnpack3
import Derived.Test.YthoemgnfklhgjaaGreatScalars
import Derived.Test.YthoemgnfklhgjaaGreatCountW
import Derived.Test.YthoemgnfklhgjaaGreatMkSmall
import Derived.Test.YthoemgnfklhgjaaGreatBuiltin
namespace Go.Proofs.YthoemgnfklhgjaaGreat
open Go.RowKit
attribute [local go_sem ↓] Go.wp_at_zero Go.wp_at_succ
/-- The part of a text between two places, as bytes. -/
def cutB (s : ByteArray) (a b : Int) : ByteArray := if a < b then s.extract a.toNat b.toNat else ⟨#[]⟩
/-- What count answers. -/
def countR (s t : ByteArray) (s1 s2 : Sc) : Option Nat :=
  match idx s1 s.size 0, idx s2 s.size s.size with
  | some a, some b => some (rest t.data.toList (cutB s (clampI a s.size) (clampI b s.size)).data.toList 0)
  | _, _ => none
theorem ascii_cut {s : ByteArray} (h : AsciiT s) (a b : Int) : AsciiT (cutB s a b) := by
  unfold cutB
  split
  · refine ⟨by simp; have := h.1; omega, fun i hi => ?_⟩
    rw [ByteArray.getElem_extract]
    exact h.2 _ _
  · exact ⟨by decide, fun i hi => absurd hi (Nat.not_lt_zero i)⟩
def CountPost (r : Option Nat) (w : World) (e : Ending) (w' : World) : Prop :=
  ((∃ n : Nat, r = some n ∧ e = .returned (.tuple #[.iface 72 (.agg #[.int .i64 (n : Int), .pointer none]), .nilIface])) ∨ (r = none ∧ ∃ v, e = .returned (.tuple #[.nilIface, v]) ∧ ErrV v)) ∧ Below w.heap.size w w'
theorem name_err (b : Nat) (ty : TypeId) (u : Value) (w : World) :
    Calls Tryz.prog 62 #[.pointer (some ⟨b, 0, none⟩), .iface ty u] w fun e w' => ∃ v, e = .returned v ∧ ErrV v ∧ Below w.heap.size w w' := by
  go_enter Tryz.func62, Tryz.ntmps62
  go_wp2_with fail
  refine (errors_new _ _).mono ?_
  rintro e w1 ⟨v, rfl, hv, hb⟩
  have HV := Lib.hid hv
  have HB := Lib.hid hb
  obtain ⟨k, hk⟩ := hv
  subst hk
  clear hb
  go_wp2
  go_ret
  exact ⟨_, rfl, HV.out, HB.out⟩
set_option maxRecDepth 100000 in
set_option maxHeartbeats 4000000 in
theorem string_count (s t name : ByteArray) (fn : Value) (b A ca : Nat) (s1 s2 : Sc) (w : World) (hs : AsciiT s) (ht : t.size ≤ 60) (h1 : s1.ok) (h2 : s2.ok)
    (hB : BuiltinAt w b name fn (.iface 58 (.string s)))
    (hA : w.cell? ⟨A, 0, none⟩ = some (.iface 58 (.string t)) ∧ w.cell? ⟨A, 1, none⟩ = some (sv s1) ∧ w.cell? ⟨A, 2, none⟩ = some (sv s2)) :
    Calls Tryz.prog 35 #[.pointer none, .pointer (some ⟨b, 0, none⟩), .slice (some ⟨A, 0, none⟩) 3 ca, .slice none 0 0] w (CountPost (countR s t s1 s2) w) := by
  obtain ⟨t1, u1, hu1⟩ := sv_iface s1
  obtain ⟨t2, u2, hu2⟩ := sv_iface s2
  rw [hu1, hu2] at hA
  have HU1 := Lib.hid hu1
  have HU2 := Lib.hid hu2
  have hAl : A < w.heap.size := World.block_lt_of_cell? w _ hA.1
  have hBl := hB.lt
  have HB := Lib.hid hB
  have HA := Lib.hid hA
  have HS := Lib.hid hs
  have HH1 := Lib.hid h1
  have HH2 := Lib.hid h2
  have hs60 := hs.1
  clear hB hA hs h1 h2 hu1 hu2
  go_enter Tryz.func35, Tryz.ntmps35
  go_wp2_with fail
  have HB0 := Lib.hid ((((Below.refl w.heap.size w).alloc (Nat.le_refl _) (.cells #[.string ⟨#[]⟩] 9)).alloc (by simp) (.cells #[.nilIface] 53)).alloc (by simp; omega) (.cells #[.nilIface] 53))
  refine (name_of b name fn _ _ (HB.out.below HB0.out hBl)).mono ?_
  rintro e w' ⟨rfl, rfl⟩
  go_wp2_with fail
  have hV0 : Vars ((((w.alloc (.cells #[.string ⟨#[]⟩] 9)).alloc (.cells #[.nilIface] 53)).alloc (.cells #[.nilIface] 53)).alloc (.cells #[.iface 108 (.pointer (some ⟨w.heap.size, 0, none⟩)), .iface 109 (.pointer (some ⟨w.heap.size + 1, 0, none⟩)), .iface 109 (.pointer (some ⟨w.heap.size + 1 + 1, 0, none⟩))] 20)) w.heap.size (.string ⟨#[]⟩) .nilIface .nilIface :=
    ⟨(((Blk.new w 9 #[.string ⟨#[]⟩]).alloc _).alloc _).alloc _, ((Blk.new_at _ 53 #[.nilIface] (n := w.heap.size + 1) (by simp)).alloc _).alloc _, (Blk.new_at _ 53 #[.nilIface] (n := w.heap.size + 1 + 1) (by simp)).alloc _⟩
  have hP := Blk.new_at (((w.alloc (.cells #[.string ⟨#[]⟩] 9)).alloc (.cells #[.nilIface] 53)).alloc (.cells #[.nilIface] 53)) 20 #[.iface 108 (.pointer (some ⟨w.heap.size, 0, none⟩)), .iface 109 (.pointer (some ⟨w.heap.size + 1, 0, none⟩)), .iface 109 (.pointer (some ⟨w.heap.size + 1 + 1, 0, none⟩))] (n := w.heap.size + 1 + 1 + 1) (by simp)
  have HB1 := Lib.hid (HB0.out.alloc (by simp; omega) (.cells #[.iface 108 (.pointer (some ⟨w.heap.size, 0, none⟩)), .iface 109 (.pointer (some ⟨w.heap.size + 1, 0, none⟩)), .iface 109 (.pointer (some ⟨w.heap.size + 1 + 1, 0, none⟩))] 20))
  refine (unpack3 name t A ca (w.heap.size + 1 + 1 + 1) 3 w.heap.size t1 t2 u1 u2 _ _ _ _ ⟨(HB1.out.cell (p := ⟨A, 0, none⟩) hAl).trans HA.out.1, (HB1.out.cell (p := ⟨A, 1, none⟩) hAl).trans HA.out.2.1, (HB1.out.cell (p := ⟨A, 2, none⟩) hAl).trans HA.out.2.2⟩ ⟨(hP.cell 0).trans rfl, (hP.cell 1).trans rfl, (hP.cell 2).trans rfl⟩ hV0 (by unfold inG; omega) (by unfold inG; omega)).mono ?_
  rintro e w4 ⟨rfl, hv4, ho4⟩
  have HV4 := Lib.hid hv4
  have hb4 : Below w.heap.size w w4 := HB1.out.trans (ho4.to_below HB1.out.size (fun k _ e => by unfold inG at e; omega))
  have HB4 := Lib.hid hb4
  have HR4 := Lib.hid (HB.out.below hb4 hBl)
  obtain ⟨x0, x1⟩ := blk_one hv4.a
  obtain ⟨y0, y1⟩ := blk_one hv4.b
  obtain ⟨z0, z1⟩ := blk_one hv4.c
  have HI := Lib.hid (indices_any s1 s2 s.size w4 HH1.out HH2.out (by omega))
  rw [HU1.out, HU2.out] at HI
  clear hV0 hP hv4 hb4 ho4
  go_wp2_with fail
  refine (recv_of b name fn _ _ HR4.out).mono ?_
  rintro e w' ⟨rfl, rfl⟩
  go_wp2_with fail
  refine HI.out.mono ?_
  rintro e w5 ⟨hr, hb5⟩
  have HB5 := Lib.hid (HB4.out.trans (hb5.mono HB4.out.size))
  have HV5 := Lib.hid (HV4.out.a.below hb5 HV4.out.a.lt)
  obtain ⟨a0, a1⟩ := blk_one HV5.out
  rcases hr with ⟨a, c, ha, hc, rfl⟩ | ⟨hno, v, rfl, hv⟩
  · obtain ⟨lo, hlo⟩ : ∃ lo, lo = clampI a s.size := ⟨_, rfl⟩
    obtain ⟨hi, hhi⟩ : ∃ hi, hi = clampI c s.size := ⟨_, rfl⟩
    rw [← hlo, ← hhi]
    obtain ⟨q, hq⟩ : ∃ q, q = cutB s lo hi := ⟨_, rfl⟩
    have hR : countR s t s1 s2 = some (rest t.data.toList q.data.toList 0) := by unfold countR; rw [ha, hc]; simp only; rw [← hlo, ← hhi, ← hq]
    have hqa : AsciiT q := by rw [hq]; exact ascii_cut HS.out _ _
    have hrl := rest_le t.data.toList q.data.toList 0
    obtain ⟨n, hn⟩ : ∃ n, n = rest t.data.toList q.data.toList 0 := ⟨_, rfl⟩
    rw [← hn] at hR hrl
    have hn1 : n ≤ 61 := by have h1 := hqa.1; have h2 : q.data.toList.length = q.size := by simp
                            omega
    have HRR := Lib.hid hR
    have HQ := Lib.hid hqa
    have HN := Lib.hid hn
    have hlo2 : 0 ≤ lo ∧ lo ≤ s.size := by rw [hlo]; unfold clampI; split <;> (try split) <;> omega
    have hhi2 : 0 ≤ hi ∧ hi ≤ s.size := by rw [hhi]; unfold clampI; split <;> (try split) <;> omega
    clear hR hqa hrl hn hlo hhi hb5 ha hc x0 x1 y0 y1 z0 z1
    by_cases hlh : lo < hi
    · obtain ⟨x, rfl⟩ : ∃ x : Nat, lo = (x : Int) := ⟨lo.toNat, by omega⟩
      obtain ⟨y, rfl⟩ : ∃ y : Nat, hi = (y : Int) := ⟨hi.toNat, by omega⟩
      have hd : decide ((x : Int) < (y : Int)) = true := by simp; omega
      have hd2 : decide (x < y) = true := by simp; omega
      have hxy : x ≤ y := by omega
      have hys : y ≤ s.size := by omega
      have hq2 : q = s.extract x y := by rw [hq]; unfold cutB; rw [if_pos hlh]; rfl
      have HQ2 := Lib.hid hq2
      clear hq hlh hq2
      go_wp2_with fail
      rw [← HQ2.out]
      refine (zz_count q t HQ.out ht _).mono ?_
      rw [← HN.out]
      rintro e w6 ⟨rfl, hb6⟩
      have HB6 := Lib.hid (HB5.out.trans (hb6.mono HB5.out.size))
      clear hb6
      go_wp2_with fail
      refine (make_int_small (n : Int) _ (by omega) (by omega)).mono ?_
      rintro e w7 ⟨rfl, hb7⟩
      have HB7 := Lib.hid (HB6.out.trans (hb7.mono HB6.out.size))
      clear hb7
      go_wp2
      go_ret2
      exact ⟨.inl ⟨n, HRR.out, rfl⟩, HB7.out⟩
    · have hd : decide (lo < hi) = false := by simp; omega
      have hq2 : q = ⟨#[]⟩ := by rw [hq]; unfold cutB; rw [if_neg hlh]
      subst hq2
      clear hq hlh
      go_wp2_with fail
      refine (zz_count ⟨#[]⟩ t HQ.out ht _).mono ?_
      rw [← HN.out]
      rintro e w6 ⟨rfl, hb6⟩
      have HB6 := Lib.hid (HB5.out.trans (hb6.mono HB5.out.size))
      clear hb6
      go_wp2_with fail
      refine (make_int_small (n : Int) _ (by omega) (by omega)).mono ?_
      rintro e w7 ⟨rfl, hb7⟩
      have HB7 := Lib.hid (HB6.out.trans (hb7.mono HB6.out.size))
      clear hb7
      go_wp2
      go_ret2
      exact ⟨.inl ⟨n, HRR.out, rfl⟩, HB7.out⟩
  · have HNO : Hid (countR s t s1 s2 = none) := by
      unfold Hid countR
      rcases hno with h | h
      · rw [h]
      · rw [h]; cases idx s1 s.size 0 <;> rfl
    obtain ⟨k, hk⟩ := hv
    subst hk
    clear hno hb5 x0 x1 y0 y1 z0 z1
    go_wp2_with fail
    refine (name_err b _ _ _).mono ?_
    rintro e w6 ⟨v6, rfl, hv6, hb6⟩
    have HB6 := Lib.hid (HB5.out.trans (hb6.mono HB5.out.size))
    have HV6 := Lib.hid hv6
    obtain ⟨k6, hk6⟩ := hv6
    subst hk6
    clear hb6
    go_wp2
    go_ret2
    exact ⟨.inr ⟨HNO.out, _, rfl, HV6.out⟩, HB6.out⟩
end Go.Proofs.YthoemgnfklhgjaaGreat
