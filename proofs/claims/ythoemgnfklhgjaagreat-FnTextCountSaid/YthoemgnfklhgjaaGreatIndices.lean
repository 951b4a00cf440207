/- Two places of a text, as the package has them. -/
import Derived.Test.YthoemgnfklhgjaaGreatAsIdx
namespace Go.Proofs.YthoemgnfklhgjaaGreat
open Go.RowKit
attribute [local go_sem ↓] Go.wp_at_zero Go.wp_at_succ
theorem blk_one {w : World} {g : Nat} {t : TypeId} {a : Value} (h : Blk w g t #[a]) : w.cell? ⟨g, 0, none⟩ = some a ∧ w.frozen? ⟨g, 0, none⟩ = false := ⟨(h.cell 0).trans rfl, h.frozen 0⟩
theorem one_put {w : World} {g : Nat} {t : TypeId} {a : Value} (h : Blk w g t #[a]) (u : Value) : Blk (w.setCell ⟨g, 0, none⟩ u) g t #[u] := h.put 0 u
theorem one_only (w : World) (g : Nat) (u : Value) : Only (· = g) w (w.setCell ⟨g, 0, none⟩ u) := (Only.refl (fun x => x = g) w).setCell (p := ⟨g, 0, none⟩) (.inl (rfl : g = g)) u
theorem only_trans {g : Nat} {w w1 w2 : World} (h : Only (· = g) w w1) (k : Only (· = g) w1 w2) : Only (· = g) w w2 := h.trans k
set_option maxRecDepth 100000 in
set_option maxHeartbeats 4000000 in
theorem as_index (s : Sc) (len : Nat) (d : Int) (g : Nat) (w : World) (hs : s.ok) (hK : Blk w g 3 #[.int .i64 d]) (hd : 0 ≤ d) (hl : len ≤ 1000) :
    Calls Tryz.prog 77 #[sv s, .int .i64 (len : Int), .pointer (some ⟨g, 0, none⟩)] w (IdxPost s len d g w) := by
  have HK := Lib.hid hK
  obtain ⟨c0, f0⟩ := blk_one hK
  have hgl := hK.lt
  cases s with
  | none =>
    have hdd : decide (d < 0) = false := by simp; omega
    clear hK
    go_enter Tryz.func77, Tryz.ntmps77
    unfold sv
    go_wp2
    go_ret
    exact ⟨.inl ⟨d, rfl, rfl, HK.out⟩, Only.refl _ _⟩
  | str t =>
    have HA := Lib.hid (as_int32 (.str t) w)
    clear hK
    go_enter Tryz.func77, Tryz.ntmps77
    unfold sv at HA ⊢
    go_wp2_with fail
    refine HA.out.mono ?_
    rintro e w1 ⟨hr, hb⟩
    rcases hr with ⟨n, h1, _⟩ | ⟨_, v, rfl, hv⟩
    · exact absurd h1 (by simp)
    · have hk1 := HK.out.below hb hgl
      obtain ⟨c1, f1⟩ := blk_one hk1
      have HK1 := Lib.hid hk1
      have HO1 : Hid (Only (· = g) w w1) := Only.of_below hb
      have HV := Lib.hid hv
      obtain ⟨b, hvb⟩ := hv
      subst hvb
      clear hb hk1 c0 f0
      go_wp2
      go_ret
      exact ⟨.inr ⟨rfl, ⟨_, rfl, HV.out⟩, one_put HK1.out _⟩, only_trans HO1.out (one_only w1 g _)⟩
  | int n =>
    have hn : -2147483648 ≤ n ∧ n ≤ 2147483647 := hs
    have HA := Lib.hid (as_int32 (.int n) w)
    clear hK hs
    by_cases h0 : n < 0
    · have hdd : decide (n < 0) = true := by simp; omega
      have HI : Hid (idx (.int n) len d = some (n + len)) := by unfold Hid idx; simp only [if_pos h0]
      clear h0
      go_enter Tryz.func77, Tryz.ntmps77
      unfold sv at HA ⊢
      go_wp2_with fail
      refine HA.out.mono ?_
      rintro e w1 ⟨hr, hb⟩
      rcases hr with ⟨n', h1, rfl⟩ | ⟨h1, _⟩
      · injection h1 with h1
        subst h1
        have hk1 := HK.out.below hb hgl
        obtain ⟨c1, f1⟩ := blk_one hk1
        have HK1 := Lib.hid hk1
        have HO1 : Hid (Only (· = g) w w1) := Only.of_below hb
        clear hb hk1 c0 f0
        go_wp2
        go_ret
        exact ⟨.inl ⟨_, HI.out, rfl, one_put (one_put HK1.out _) _⟩, only_trans (only_trans HO1.out (one_only w1 g _)) (one_only _ g _)⟩
      · exact absurd rfl (h1 n)
    · have hdd : decide (n < 0) = false := by simp; omega
      have HI : Hid (idx (.int n) len d = some n) := by unfold Hid idx; simp only [if_neg h0]
      clear h0
      go_enter Tryz.func77, Tryz.ntmps77
      unfold sv at HA ⊢
      go_wp2_with fail
      refine HA.out.mono ?_
      rintro e w1 ⟨hr, hb⟩
      rcases hr with ⟨n', h1, rfl⟩ | ⟨h1, _⟩
      · injection h1 with h1
        subst h1
        have hk1 := HK.out.below hb hgl
        obtain ⟨c1, f1⟩ := blk_one hk1
        have HK1 := Lib.hid hk1
        have HO1 : Hid (Only (· = g) w w1) := Only.of_below hb
        clear hb hk1 c0 f0
        go_wp2
        go_ret
        exact ⟨.inl ⟨_, HI.out, rfl, one_put HK1.out _⟩, only_trans HO1.out (one_only w1 g _)⟩
      · exact absurd rfl (h1 n)
end Go.Proofs.YthoemgnfklhgjaaGreat
