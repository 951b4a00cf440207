/- Two places of a text, both clamped. -/
import Derived.Test.YthoemgnfklhgjaaGreatIndices
namespace Go.Proofs.YthoemgnfklhgjaaGreat
open Go.RowKit
attribute [local go_sem ↓] Go.wp_at_zero Go.wp_at_succ
def clampI (x len : Int) : Int := if x < 0 then 0 else if len < x then len else x
def IndPost (s1 s2 : Sc) (len : Nat) (w : World) (e : Ending) (w' : World) : Prop :=
  ((∃ a b, idx s1 len 0 = some a ∧ idx s2 len len = some b ∧ e = .returned (.tuple #[.int .i64 (clampI a len), .int .i64 (clampI b len), .nilIface])) ∨
    ((idx s1 len 0 = none ∨ idx s2 len len = none) ∧ ∃ v, e = .returned (.tuple #[.int .i64 0, .int .i64 0, v]) ∧ ErrV v)) ∧ Below w.heap.size w w'
theorem idx_in {s : Sc} (hs : s.ok) {len : Nat} (hl : len ≤ 1000) {d r : Int} (hd : 0 ≤ d ∧ d ≤ 1000) (h : idx s len d = some r) : -3000000000 ≤ r ∧ r ≤ 3000000000 := by
  cases s with
  | none => injection h with h; omega
  | str t => exact absurd h (by simp [idx])
  | int n =>
    have hn : -2147483648 ≤ n ∧ n ≤ 2147483647 := hs
    injection h with h
    split at h <;> omega
/-- Two cells of their own, and what was there before. -/
structure Two (w W : World) (x y : Int) : Prop where
  a : Blk W w.heap.size 3 #[.int .i64 x]
  b : Blk W (w.heap.size + 1) 3 #[.int .i64 y]
  lo : Below w.heap.size w W
theorem Two.setA {w W : World} {x y : Int} (h : Two w W x y) (z : Int) : Two w (W.setCell ⟨w.heap.size, 0, none⟩ (.int .i64 z)) z y :=
  ⟨one_put h.a _, h.b.far (p := ⟨w.heap.size, 0, none⟩) (by simp) _, h.lo.setCell (p := ⟨w.heap.size, 0, none⟩) (Nat.le_refl _) _⟩
theorem Two.setB {w W : World} {x y : Int} (h : Two w W x y) (z : Int) : Two w (W.setCell ⟨w.heap.size + 1, 0, none⟩ (.int .i64 z)) x z :=
  ⟨h.a.far (p := ⟨w.heap.size + 1, 0, none⟩) (by simp) _, one_put h.b _, h.lo.setCell (p := ⟨w.heap.size + 1, 0, none⟩) (by simp) _⟩
theorem Two.cells {w W : World} {x y : Int} (h : Two w W x y) : W.cell? ⟨w.heap.size, 0, none⟩ = some (.int .i64 x) ∧ W.frozen? ⟨w.heap.size, 0, none⟩ = false ∧ W.cell? ⟨w.heap.size + 1, 0, none⟩ = some (.int .i64 y) ∧ W.frozen? ⟨w.heap.size + 1, 0, none⟩ = false :=
  ⟨(blk_one h.a).1, (blk_one h.a).2, (blk_one h.b).1, (blk_one h.b).2⟩
theorem Two.below {w W W' : World} {x y : Int} (h : Two w W x y) (hb : Below W.heap.size W W') : Two w W' x y :=
  ⟨h.a.below hb h.a.lt, h.b.below hb h.b.lt, h.lo.trans (hb.mono h.lo.size)⟩
theorem Two.onlyA {w W W' : World} {x y z : Int} (h : Two w W x y) (ho : Only (· = w.heap.size) W W') (hz : Blk W' w.heap.size 3 #[.int .i64 z]) : Two w W' z y :=
  ⟨hz, h.b.only ho (by simp), h.lo.trans (ho.to_below h.lo.size (fun k _ e => by omega))⟩
theorem Two.onlyB {w W W' : World} {x y z : Int} (h : Two w W x y) (ho : Only (· = w.heap.size + 1) W W') (hz : Blk W' (w.heap.size + 1) 3 #[.int .i64 z]) : Two w W' x z :=
  ⟨h.a.only ho (by simp), hz, h.lo.trans (ho.to_below h.lo.size (fun k _ e => by omega))⟩
set_option maxRecDepth 100000 in
set_option maxHeartbeats 4000000 in
theorem indices_any (s1 s2 : Sc) (len : Nat) (w : World) (h1 : s1.ok) (h2 : s2.ok) (hl : len ≤ 1000) :
    Calls Tryz.prog 61 #[sv s1, sv s2, .int .i64 (len : Int)] w (IndPost s1 s2 len w) := by
  have hT0 : Two w ((w.alloc (.cells #[.int .i64 0] 3)).alloc (.cells #[.int .i64 0] 3)) 0 0 :=
    ⟨(Blk.new w 3 #[.int .i64 0]).alloc _, Blk.new_at _ 3 _ (by simp), ((Below.refl w.heap.size w).alloc (Nat.le_refl _) _).alloc (by simp) _⟩
  obtain ⟨a0, a1, b0, b1⟩ := hT0.cells
  have HT0 := Lib.hid hT0
  have HA := Lib.hid (as_index s1 len 0 w.heap.size _ h1 hT0.a (Int.le_refl _) hl)
  have HH2 := Lib.hid h2
  have HH1 := Lib.hid h1
  obtain ⟨u1, hu1⟩ : ∃ u, u = sv s1 := ⟨_, rfl⟩
  obtain ⟨u2, hu2⟩ : ∃ u, u = sv s2 := ⟨_, rfl⟩
  rw [← hu1] at HA
  rw [← hu1, ← hu2]
  have HU2 := Lib.hid hu2
  clear hT0 h1 h2 hu1 hu2
  go_enter Tryz.func61, Tryz.ntmps61
  go_wp2_with fail
  refine HA.out.mono ?_
  rintro e w1 ⟨hr, ho1⟩
  rcases hr with ⟨a, ha, rfl, hk1⟩ | ⟨ha, ⟨v, rfl, hv⟩, hk1⟩
  · have hT1 := HT0.out.onlyA ho1 hk1
    have hain := idx_in HH1.out hl ⟨Int.le_refl _, by omega⟩ ha
    have HAI := Lib.hid ha
    have HT1 := Lib.hid hT1
    obtain ⟨p0, p1, p2, p3⟩ := hT1.cells
    clear hk1 ho1 hT1 ha a0 a1 b0 b1
    by_cases ha0 : a < 0
    · have hd1 : decide (a < 0) = true := by simp; omega
      have HCA : Hid (clampI a len = 0) := by unfold Hid clampI; rw [if_pos ha0]
      have HT2 := Lib.hid ((HT1.out.setA 0).setB len)
      clear ha0
      have HB := Lib.hid (as_index s2 len len (w.heap.size + 1) _ HH2.out HT2.out.b (by omega) hl)
      rw [← HU2.out] at HB
      go_wp2_with fail
      refine HB.out.mono ?_
      rintro e w3 ⟨hr, ho3⟩
      rcases hr with ⟨b, hb, rfl, hk3⟩ | ⟨hb, ⟨v, rfl, hv⟩, hk3⟩
      · have hT3 := HT2.out.onlyB ho3 hk3
        have hbin := idx_in HH2.out hl ⟨by omega, by omega⟩ hb
        have HBI := Lib.hid hb
        obtain ⟨z0, z1, z2, z3⟩ := hT3.cells
        have HT3 := Lib.hid hT3
        clear hk3 ho3 hT3 hb
        by_cases hb0 : b < 0
        · have hd1 : decide (b < 0) = true := by simp; omega
          have HCB : Hid (clampI b len = 0) := by unfold Hid clampI; rw [if_pos hb0]
          have HT4 := Lib.hid (HT3.out.setB 0)
          clear hb0
          go_wp2
          refine bodyPost_ret (v := .tuple #[.int .i64 0, .int .i64 0, .nilIface]) (by simp [results, Tryz.results61, go_sem, z0, z1, z2, z3]) rfl ⟨.inl ⟨_, _, HAI.out, HBI.out, by rw [HCA.out, HCB.out]⟩, ?_⟩
          exact (HT4.out.setA _).setB _ |>.lo
        · have hd1 : decide (b < 0) = false := by simp; omega
          by_cases hb1 : (len : Int) < b
          · have hd2 : decide ((len : Int) < b) = true := by simp; omega
            have HCB : Hid (clampI b len = len) := by unfold Hid clampI; rw [if_neg hb0, if_pos hb1]
            have HT4 := Lib.hid (HT3.out.setB len)
            clear hb0 hb1
            go_wp2
            refine bodyPost_ret (v := .tuple #[.int .i64 0, .int .i64 (len : Int), .nilIface]) (by simp [results, Tryz.results61, go_sem, z0, z1, z2, z3]) rfl ⟨.inl ⟨_, _, HAI.out, HBI.out, by rw [HCA.out, HCB.out]⟩, ?_⟩
            exact (HT4.out.setA _).setB _ |>.lo
          · have hd2 : decide ((len : Int) < b) = false := by simp; omega
            have HCB : Hid (clampI b len = b) := by unfold Hid clampI; rw [if_neg hb0, if_neg hb1]
            have HT4 := Lib.hid HT3.out
            clear hb0 hb1
            go_wp2
            refine bodyPost_ret (v := .tuple #[.int .i64 0, .int .i64 b, .nilIface]) (by simp [results, Tryz.results61, go_sem, z0, z1, z2, z3]) rfl ⟨.inl ⟨_, _, HAI.out, HBI.out, by rw [HCA.out, HCB.out]⟩, ?_⟩
            exact (HT4.out.setA _).setB _ |>.lo
      · have hT3 := HT2.out.onlyB ho3 hk3
        have HBI := Lib.hid hb
        clear hk3 ho3 hb
        have HV := Lib.hid hv
        obtain ⟨bb, hvb⟩ := hv
        subst hvb
        go_wp2_with fail
        refine (errors_new _ _).mono ?_
        rintro e w9 ⟨v9, rfl, hv9, hb9⟩
        have hT9 := hT3.below hb9
        have HT9 := Lib.hid hT9
        have HV9 := Lib.hid hv9
        obtain ⟨b9, hvb9⟩ := hv9
        subst hvb9
        obtain ⟨y0, y1, y2, y3⟩ := hT9.cells
        clear hb9 hT9
        go_wp2
        refine bodyPost_ret (v := .tuple #[.int .i64 0, .int .i64 0, .iface 179 (.pointer (some ⟨b9, 0, none⟩))]) (by simp [results, Tryz.results61, go_sem, y0, y1, y2, y3]) rfl ⟨.inr ⟨(.inr HBI.out), _, rfl, HV9.out⟩, ?_⟩
        exact ((HT9.out.setA _).setB _).lo
    · have hd1 : decide (a < 0) = false := by simp; omega
      by_cases ha1 : (len : Int) < a
      · have hd2 : decide ((len : Int) < a) = true := by simp; omega
        have HCA : Hid (clampI a len = len) := by unfold Hid clampI; rw [if_neg ha0, if_pos ha1]
        have HT2 := Lib.hid ((HT1.out.setA len).setB len)
        clear ha0 ha1
        have HB := Lib.hid (as_index s2 len len (w.heap.size + 1) _ HH2.out HT2.out.b (by omega) hl)
        rw [← HU2.out] at HB
        go_wp2_with fail
        refine HB.out.mono ?_
        rintro e w3 ⟨hr, ho3⟩
        rcases hr with ⟨b, hb, rfl, hk3⟩ | ⟨hb, ⟨v, rfl, hv⟩, hk3⟩
        · have hT3 := HT2.out.onlyB ho3 hk3
          have hbin := idx_in HH2.out hl ⟨by omega, by omega⟩ hb
          have HBI := Lib.hid hb
          obtain ⟨z0, z1, z2, z3⟩ := hT3.cells
          have HT3 := Lib.hid hT3
          clear hk3 ho3 hT3 hb
          by_cases hb0 : b < 0
          · have hd1 : decide (b < 0) = true := by simp; omega
            have HCB : Hid (clampI b len = 0) := by unfold Hid clampI; rw [if_pos hb0]
            have HT4 := Lib.hid (HT3.out.setB 0)
            clear hb0
            go_wp2
            refine bodyPost_ret (v := .tuple #[.int .i64 (len : Int), .int .i64 0, .nilIface]) (by simp [results, Tryz.results61, go_sem, z0, z1, z2, z3]) rfl ⟨.inl ⟨_, _, HAI.out, HBI.out, by rw [HCA.out, HCB.out]⟩, ?_⟩
            exact (HT4.out.setA _).setB _ |>.lo
          · have hd1 : decide (b < 0) = false := by simp; omega
            by_cases hb1 : (len : Int) < b
            · have hd2 : decide ((len : Int) < b) = true := by simp; omega
              have HCB : Hid (clampI b len = len) := by unfold Hid clampI; rw [if_neg hb0, if_pos hb1]
              have HT4 := Lib.hid (HT3.out.setB len)
              clear hb0 hb1
              go_wp2
              refine bodyPost_ret (v := .tuple #[.int .i64 (len : Int), .int .i64 (len : Int), .nilIface]) (by simp [results, Tryz.results61, go_sem, z0, z1, z2, z3]) rfl ⟨.inl ⟨_, _, HAI.out, HBI.out, by rw [HCA.out, HCB.out]⟩, ?_⟩
              exact (HT4.out.setA _).setB _ |>.lo
            · have hd2 : decide ((len : Int) < b) = false := by simp; omega
              have HCB : Hid (clampI b len = b) := by unfold Hid clampI; rw [if_neg hb0, if_neg hb1]
              have HT4 := Lib.hid HT3.out
              clear hb0 hb1
              go_wp2
              refine bodyPost_ret (v := .tuple #[.int .i64 (len : Int), .int .i64 b, .nilIface]) (by simp [results, Tryz.results61, go_sem, z0, z1, z2, z3]) rfl ⟨.inl ⟨_, _, HAI.out, HBI.out, by rw [HCA.out, HCB.out]⟩, ?_⟩
              exact (HT4.out.setA _).setB _ |>.lo
        · have hT3 := HT2.out.onlyB ho3 hk3
          have HBI := Lib.hid hb
          clear hk3 ho3 hb
          have HV := Lib.hid hv
          obtain ⟨bb, hvb⟩ := hv
          subst hvb
          go_wp2_with fail
          refine (errors_new _ _).mono ?_
          rintro e w9 ⟨v9, rfl, hv9, hb9⟩
          have hT9 := hT3.below hb9
          have HT9 := Lib.hid hT9
          have HV9 := Lib.hid hv9
          obtain ⟨b9, hvb9⟩ := hv9
          subst hvb9
          obtain ⟨y0, y1, y2, y3⟩ := hT9.cells
          clear hb9 hT9
          go_wp2
          refine bodyPost_ret (v := .tuple #[.int .i64 0, .int .i64 0, .iface 179 (.pointer (some ⟨b9, 0, none⟩))]) (by simp [results, Tryz.results61, go_sem, y0, y1, y2, y3]) rfl ⟨.inr ⟨(.inr HBI.out), _, rfl, HV9.out⟩, ?_⟩
          exact ((HT9.out.setA _).setB _).lo
      · have hd2 : decide ((len : Int) < a) = false := by simp; omega
        have HCA : Hid (clampI a len = a) := by unfold Hid clampI; rw [if_neg ha0, if_neg ha1]
        have HT2 := Lib.hid (HT1.out.setB len)
        clear ha0 ha1
        have HB := Lib.hid (as_index s2 len len (w.heap.size + 1) _ HH2.out HT2.out.b (by omega) hl)
        rw [← HU2.out] at HB
        go_wp2_with fail
        refine HB.out.mono ?_
        rintro e w3 ⟨hr, ho3⟩
        rcases hr with ⟨b, hb, rfl, hk3⟩ | ⟨hb, ⟨v, rfl, hv⟩, hk3⟩
        · have hT3 := HT2.out.onlyB ho3 hk3
          have hbin := idx_in HH2.out hl ⟨by omega, by omega⟩ hb
          have HBI := Lib.hid hb
          obtain ⟨z0, z1, z2, z3⟩ := hT3.cells
          have HT3 := Lib.hid hT3
          clear hk3 ho3 hT3 hb
          by_cases hb0 : b < 0
          · have hd1 : decide (b < 0) = true := by simp; omega
            have HCB : Hid (clampI b len = 0) := by unfold Hid clampI; rw [if_pos hb0]
            have HT4 := Lib.hid (HT3.out.setB 0)
            clear hb0
            go_wp2
            refine bodyPost_ret (v := .tuple #[.int .i64 a, .int .i64 0, .nilIface]) (by simp [results, Tryz.results61, go_sem, z0, z1, z2, z3]) rfl ⟨.inl ⟨_, _, HAI.out, HBI.out, by rw [HCA.out, HCB.out]⟩, ?_⟩
            exact (HT4.out.setA _).setB _ |>.lo
          · have hd1 : decide (b < 0) = false := by simp; omega
            by_cases hb1 : (len : Int) < b
            · have hd2 : decide ((len : Int) < b) = true := by simp; omega
              have HCB : Hid (clampI b len = len) := by unfold Hid clampI; rw [if_neg hb0, if_pos hb1]
              have HT4 := Lib.hid (HT3.out.setB len)
              clear hb0 hb1
              go_wp2
              refine bodyPost_ret (v := .tuple #[.int .i64 a, .int .i64 (len : Int), .nilIface]) (by simp [results, Tryz.results61, go_sem, z0, z1, z2, z3]) rfl ⟨.inl ⟨_, _, HAI.out, HBI.out, by rw [HCA.out, HCB.out]⟩, ?_⟩
              exact (HT4.out.setA _).setB _ |>.lo
            · have hd2 : decide ((len : Int) < b) = false := by simp; omega
              have HCB : Hid (clampI b len = b) := by unfold Hid clampI; rw [if_neg hb0, if_neg hb1]
              have HT4 := Lib.hid HT3.out
              clear hb0 hb1
              go_wp2
              refine bodyPost_ret (v := .tuple #[.int .i64 a, .int .i64 b, .nilIface]) (by simp [results, Tryz.results61, go_sem, z0, z1, z2, z3]) rfl ⟨.inl ⟨_, _, HAI.out, HBI.out, by rw [HCA.out, HCB.out]⟩, ?_⟩
              exact (HT4.out.setA _).setB _ |>.lo
        · have hT3 := HT2.out.onlyB ho3 hk3
          have HBI := Lib.hid hb
          clear hk3 ho3 hb
          have HV := Lib.hid hv
          obtain ⟨bb, hvb⟩ := hv
          subst hvb
          go_wp2_with fail
          refine (errors_new _ _).mono ?_
          rintro e w9 ⟨v9, rfl, hv9, hb9⟩
          have hT9 := hT3.below hb9
          have HT9 := Lib.hid hT9
          have HV9 := Lib.hid hv9
          obtain ⟨b9, hvb9⟩ := hv9
          subst hvb9
          obtain ⟨y0, y1, y2, y3⟩ := hT9.cells
          clear hb9 hT9
          go_wp2
          refine bodyPost_ret (v := .tuple #[.int .i64 0, .int .i64 0, .iface 179 (.pointer (some ⟨b9, 0, none⟩))]) (by simp [results, Tryz.results61, go_sem, y0, y1, y2, y3]) rfl ⟨.inr ⟨(.inr HBI.out), _, rfl, HV9.out⟩, ?_⟩
          exact ((HT9.out.setA _).setB _).lo
  · have hT1 := HT0.out.onlyA ho1 hk1
    have HAI := Lib.hid ha
    clear hk1 ho1 ha
    have HV := Lib.hid hv
    obtain ⟨bb, hvb⟩ := hv
    subst hvb
    go_wp2_with fail
    refine (errors_new _ _).mono ?_
    rintro e w9 ⟨v9, rfl, hv9, hb9⟩
    have hT9 := hT1.below hb9
    have HT9 := Lib.hid hT9
    have HV9 := Lib.hid hv9
    obtain ⟨b9, hvb9⟩ := hv9
    subst hvb9
    obtain ⟨y0, y1, y2, y3⟩ := hT9.cells
    clear hb9 hT9
    go_wp2
    refine bodyPost_ret (v := .tuple #[.int .i64 0, .int .i64 0, .iface 179 (.pointer (some ⟨b9, 0, none⟩))]) (by simp [results, Tryz.results61, go_sem, y0, y1, y2, y3]) rfl ⟨.inr ⟨(.inl HAI.out), _, rfl, HV9.out⟩, ?_⟩
    exact ((HT9.out.setA _).setB _).lo
end Go.Proofs.YthoemgnfklhgjaaGreat
