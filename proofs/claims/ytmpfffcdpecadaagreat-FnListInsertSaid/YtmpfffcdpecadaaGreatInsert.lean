/- An element put into a list: the package's method. -/
import Derived.Test.YtmpfffcdpecadaaGreatInsUn
import Derived.Test.YtmpfffcdpecadaaGreatDone
import Derived.Deep.RegionHeld3
import Derived.Deep.AppendLies
import Derived.Deep.QuietTactic
import Derived.BigQuiet
import Derived.StillTailTactics
import Derived.Test.YtmpfffcdpecadaaGreatRowUp
import Derived.Deep.RegionLaw
namespace Go.Proofs.YtmpfffcdpecadaaGreat
open Go.RowKit
attribute [local go_sem ↓] Go.wp_at_zero Go.wp_at_succ
theorem check_mut (L : Nat) (v : Value) (t : ByteArray) (w : World) (h : ListB w L v 0) :
    Calls Tryz.prog 56 #[.pointer (some ⟨L, 0, none⟩), .string t] w fun e w' => e = .returned .nilIface ∧ w = w' := by
  obtain ⟨c0, c1, c2, f0, f1, f2⟩ := blk_three h
  clear h
  go_enter Tryz.func56, Tryz.ntmps56
  go_wp2
  go_ret
  exact ⟨rfl, rfl⟩
/-- An element ahead of a place. -/
def insL {α : Type} (l : List α) (j : Nat) (x : α) : List α := l.take j ++ x :: l.drop j
/-- The place that a number asks for. -/
def placeL (n : Nat) (k : Int) : Nat := if k < 0 then (k + (n : Int)).toNat else min k.toNat n
theorem RowT.app {W W1 w1 : World} {B : Nat} {v v' y : Value} {ps : List (Value × Sx)} {z : Sx} (hr : RowT W B v ps) (hy : TVal W y z) (hB : B ≤ W.heap.size)
    (h1 : W1.heap = (W.alloc (.cells #[y] 49)).heap) (ht : W1.tape = W.tape) (ho : W1.os = W.os) (hu : W1.output = W.output)
    (hown : w1.ownsRow B 49 1 v' (ps.length + 1) (ps.map (·.1) ++ [y])) (hg : W1.grownBy w1 v.ownBlock) :
    RowT w1 B v' (ps ++ [(y, z)]) ∧ Below B W w1 := by
  have hba : Below W.heap.size W W1 := by
    have hb := (Below.refl W.heap.size W).alloc (Nat.le_refl _) (.cells #[y] 49)
    exact ⟨ho, ht, hu, by rw [h1]; exact hb.size, fun k hk => by rw [h1]; exact hb.block k hk⟩
  have hr1 : W1.ownsRow B 49 1 v ps.length (ps.map (·.1)) := own_below hr.1 hba
  refine ⟨⟨?_, fun q hq => ?_⟩, (hba.mono hB).grown hg (Nat.le_trans hB hba.size) fun k hk => (hr1.lt k hk).1⟩
  · rw [List.length_append, List.map_append]
    simpa using hown
  · have hq2 : TVal W q.1 q.2 := by
      rcases List.mem_append.1 hq with hq | hq
      · exact hr.2 q hq
      · simp at hq; subst hq; exact hy
    exact (hq2.below hba).grown hr1 (by decide) (by decide) hg
/-- The list behind the call. -/
def InsPost (L B : Nat) (ps : List (Value × Sx)) (y : Value × Sx) (j : Nat) (w : World) (e : Ending) (w' : World) : Prop :=
  e = .returned (.tuple #[.iface 91 (.int .u8 0), .nilIface]) ∧ ∃ v', ListB w' L v' 0 ∧ RowT w' B v' (insL ps j y) ∧ Below B w w'
set_option maxRecDepth 100000 in
set_option maxHeartbeats 4000000 in
theorem ins_end (w : World) (L b A ca B : Nat) (v u0 u1 : Value) (s0 s1 : Sx) (k : Int) (ps : List (Value × Sx)) (name : ByteArray) (fn : Value) (hB : BuiltinAt w b name fn (.iface 42 (.pointer (some ⟨L, 0, none⟩)))) (hL : ListB w L v 0) (hR : RowT w B v ps) (hl : ps.length ≤ 1000)
    (h0 : TVal w u0 s0) (h1 : TVal w u1 s1) (hA0 : w.cell? ⟨A, 0, none⟩ = some u0) (hA1 : w.cell? ⟨A, 1, none⟩ = some u1) (hBL : B ≤ L) (hk : idxX s0 = some k) (hge : (ps.length : Int) ≤ k) :
    Calls Tryz.prog 36 #[.pointer none, .pointer (some ⟨b, 0, none⟩), .slice (some ⟨A, 0, none⟩) 2 ca, .slice none 0 0] w (InsPost L B ps (u1, s1) ps.length w) := by
  have hLl : L < w.heap.size := hL.lt
  have hAl : A < w.heap.size := World.block_lt_of_cell? w _ hA0
  obtain ⟨a, c, hv⟩ : ∃ a c, v = .slice a ps.length c := by
    rcases hR.1.2 with ⟨rfl, h0⟩ | ⟨g, cap, cur, rfl, _⟩
    · exact ⟨none, 0, by rw [h0]⟩
    · exact ⟨_, _, rfl⟩
  subst hv
  obtain ⟨n, hn⟩ : ∃ n, n = ps.length := ⟨_, rfl⟩
  rw [← hn] at hL hR hl
  have HN := Lib.hid hn
  have HBW : Hid (B ≤ w.heap.size) := by unfold Hid; omega
  have HB := Lib.hid hB
  have HL := Lib.hid hL
  have HR := Lib.hid hR
  have H1 := Lib.hid h1
  have HAL := Lib.hid ((((Below.refl w.heap.size w).alloc (Nat.le_refl _) (.cells #[.int .i64 0] 3)).alloc (by simp) (.cells #[.nilIface] 49)).alloc (by simp; omega) (.cells #[.iface 111 (.pointer (some ⟨w.heap.size, 0, none⟩)), .iface 112 (.pointer (some ⟨w.heap.size + 1, 0, none⟩))] 20))
  have hname := fun W (h : Below w.heap.size w W) => name_of b name fn _ W (hB.below h hB.lt)
  have HNAME := Lib.hid hname
  have HA2 := Lib.hid ((((Below.refl w.heap.size w).alloc (Nat.le_refl _) (.cells #[.int .i64 0] 3)).alloc (by simp) (.cells #[.nilIface] 49)))
  have HBQ := Lib.hid (Blk.new_at ((w.alloc (.cells #[.int .i64 0] 3)).alloc (.cells #[.nilIface] 49)) 20 #[.iface 111 (.pointer (some ⟨w.heap.size, 0, none⟩)), .iface 112 (.pointer (some ⟨w.heap.size + 1, 0, none⟩))] (n := w.heap.size + 1 + 1) (by simp))
  have HUN := Lib.hid (unpack_two name u0 u1 (.int .i64 0) .nilIface s0 k A ca (w.heap.size + 1 + 1) 2 w.heap.size (w.heap.size + 1) _ (h0.below HAL.out) hk h1.iface ((HAL.out.cell (p := ⟨A, 0, none⟩) hAl).trans hA0) ((HAL.out.cell (p := ⟨A, 1, none⟩) hAl).trans hA1) ((HBQ.out.cell 0).trans rfl) ((HBQ.out.cell 1).trans rfl)
    (((Blk.new w 3 #[.int .i64 0]).alloc _).alloc _) ((Blk.new_at (w.alloc (.cells #[.int .i64 0] 3)) 49 #[.nilIface] (n := w.heap.size + 1) (by simp)).alloc _) (by omega) (by omega) (by omega))
  obtain ⟨tv, zv, rfl⟩ := h1.iface
  clear hB hL hR h0 h1 hA0 hA1 hk hname hn
  go_enter Tryz.func36, Tryz.ntmps36
  go_wp2_with fail
  refine (recv_of b name fn _ _ HB.out).mono ?_
  rintro e w' ⟨rfl, rfl⟩
  go_wp2_with fail
  refine (HNAME.out _ HA2.out).mono ?_
  rintro e w' ⟨rfl, rfl⟩
  go_wp2_with fail
  refine HUN.out.mono ?_
  rintro e w3 ⟨rfl, hg3, hx3, ho3⟩
  have HB3 := Lib.hid (HAL.out.trans (ho3.to_below HAL.out.size (fun q _ e => by rcases e with e | e <;> omega)))
  have HL3 := Lib.hid (HL.out.below HB3.out hLl)
  have HR3 := Lib.hid (HR.out.below HB3.out)
  have H13 := Lib.hid (H1.out.below HB3.out)
  have HG3 := Lib.hid hg3
  have HX3 := Lib.hid hx3
  clear hg3 hx3 ho3
  go_wp2_with fail
  refine (check_mut L _ _ _ HL3.out).mono ?_
  rintro e w' ⟨rfl, rfl⟩
  have HLEN := Lib.hid (fun W (h : Below w3.heap.size w3 W) => list_len L n c a 0 W (HL3.out.below h HL3.out.lt))
  have HLQ := Lib.hid (fun q => (list_len L n c a 0 (w3.drewN q) (Blk.drewN HL3.out q)).mono fun e w' (h : e = .returned (.int .i64 (n : Int)) ∧ w3.drewN q = w') => (⟨h.1, h.2.symm⟩ : e = .returned (.int .i64 (n : Int)) ∧ w' = w3.drewN q))
  obtain ⟨i0, if0⟩ := blk_one HG3.out
  obtain ⟨x0, xf0⟩ := blk_one HX3.out
  obtain ⟨l0, l1, l2, lf0, lf1, lf2⟩ := blk_three HL3.out
  have d1 : decide (k < 0) = false := decide_eq_false (by omega)
  have d2 : decide ((n : Int) ≤ k) = true := decide_eq_true (by have := HN.out; omega)
  clear hge
  go_wp2_with fail
  go_quiet ((go_at_call 58; exact Calls.quiet_of_same (HLQ.out _)))
  obtain ⟨w4, hw4⟩ : ∃ x, x = w3.drewN nq := ⟨_, rfl⟩
  have HL4 : Hid (ListB w4 L (.slice a n c) 0) := hw4 ▸ Blk.drewN HL3.out nq
  have hb34 : Below w3.heap.size w3 w4 := hw4 ▸ below_dn (Below.refl _ _) nq
  have HB4 := Lib.hid (HB3.out.trans (hb34.mono HB3.out.size))
  have HR4 := Lib.hid (HR3.out.below hb34)
  have H14 := Lib.hid (H13.out.below hb34)
  have HG4 := Lib.hid (HG3.out.below hb34 HG3.out.lt)
  have HX4 := Lib.hid (HX3.out.below hb34 HX3.out.lt)
  have hlt4 := HX4.out.lt
  have hlL4 : L < w4.heap.size := HL4.out.lt
  have HO4 : Hid (w4.ownsRow B 49 1 (.slice a n c) n (ps.map (·.1))) := by have := HR4.out.1; rw [← HN.out] at this; exact this
  have HLO : Hid (some L ≠ (Value.slice a n c).ownBlock) := fun e => own_ne_blk HR4.out.1 HL4.out (by decide) L e.symm rfl
  have HXO : Hid (some (w.heap.size + 1) ≠ (Value.slice a n c).ownBlock) := fun e => by have := (HR.out.1.lt (w.heap.size + 1) e.symm).2; omega
  have hBw4 : B ≤ w4.heap.size := Nat.le_trans HBW.out HB4.out.size
  obtain ⟨j0, hj0, hj1, hj2, hj3⟩ := info_parts Tryz.infoV
  have HJ := Lib.hid (And.intro hj0 (And.intro hj1 (And.intro hj2 hj3)))
  rw [← hw4]
  clear i0 if0 x0 xf0 l0 l1 l2 lf0 lf1 lf2 hb34 hw4 hj0 hj1 hj2 hj3
  obtain ⟨i0, if0⟩ := blk_one HG4.out
  obtain ⟨x0, xf0⟩ := blk_one HX4.out
  obtain ⟨l0, l1, l2, lf0, lf1, lf2⟩ := blk_three HL4.out
  go_wp2_with fail
  go_region_law ((refine step_append_lies _ (by rfl) _ _ _ (by rfl) B 49 j0 _ 1 16 Tryz.underlying45 HJ.out.1 HJ.out.2.1 HJ.out.2.2.1 HJ.out.2.2.2 rfl (by omega) (.slice a n c) n (ps.map (·.1)) (by rfl) ((HO4.out.alloc _).drew) ⟨w4.heap.size, 0, none⟩ 1 1 [.iface tv zv] (by rfl) (by rfl) (World.news_of_block (cs := #[.iface tv zv]) (t := 49) (fr := (0, 0)) (heap_alloc_new w4 _)) (by simp [Value.oneCell']) (by omega) (by unfold maxLen; omega) (by omega) (by simp; omega) (w4.heap.size + 1) (by simp) ?_; intro gg cap w5 hown5 hgrow hat hlt; have l5 : w5.cell? ⟨L, 0, none⟩ = some (.slice a n c) := (hgrow.cell_far ⟨L, 0, none⟩ (by simp; omega) HLO.out).trans (((Blk.drew (Blk.alloc HL4.out _)).cell 0).trans rfl); have lf5 : w5.frozen? ⟨L, 0, none⟩ = false := (hgrow.frozen_far ⟨L, 0, none⟩ (by simp; omega) HLO.out).trans ((Blk.drew (Blk.alloc HL4.out _)).frozen 0)))
  all_goals
    have hra := HR4.out.app (W1 := (w4.alloc (.cells #[.iface tv zv] 49)).drew) (y := .iface tv zv) (z := s1) H14.out hBw4 rfl rfl rfl rfl (by rw [← HN.out]; exact hown5) hgrow
    have hL5 : ListB w5 L (.slice a n c) 0 := Blk.grown (Blk.drew (Blk.alloc HL4.out _)) hgrow HLO.out
    have HF : Hid (InsPost L B ps (.iface tv zv, s1) ps.length w (.returned (.tuple #[.iface 91 (.int .u8 0), .nilIface])) (w5.setCell ⟨L, 0, none⟩ (.slice (some ⟨gg, 0, none⟩) (n + 1) cap))) := by
      have ho : Only (· = L) w5 (w5.setCell ⟨L, 0, none⟩ (.slice (some ⟨gg, 0, none⟩) (n + 1) cap)) := (Only.refl (· = L) w5).setCell (p := ⟨L, 0, none⟩) (.inl (rfl : L = L)) _
      refine ⟨rfl, _, Blk.put hL5 0 _, ?_, ?_⟩
      · have he : insL ps ps.length (Value.iface tv zv, s1) = ps ++ [(.iface tv zv, s1)] := by unfold insL; rw [List.take_length, List.drop_length]
        rw [he]
        exact hra.1.apart (fun q hq e => own_ne_blk hra.1.1 hL5 (by decide) q hq e) (fun q e _ => ⟨_, _, by subst e; exact hL5, by decide, by decide⟩) ho
      · exact ((HB4.out.mono HBW.out).trans hra.2).trans (ho.to_below (Nat.le_trans hBw4 (hra.2.size)) (fun q _ e => by omega))
    clear hra hL5 hown5 hgrow hat hlt
    go_wp2
    go_ret2
    exact HF.out
set_option maxRecDepth 100000 in
set_option maxHeartbeats 4000000 in
theorem ins_mid (w : World) (L b A ca B : Nat) (v u0 u1 : Value) (s0 s1 : Sx) (k : Int) (ps : List (Value × Sx)) (name : ByteArray) (fn : Value) (hB : BuiltinAt w b name fn (.iface 42 (.pointer (some ⟨L, 0, none⟩)))) (hL : ListB w L v 0) (hR : RowT w B v ps) (hl : ps.length ≤ 1000)
    (h0 : TVal w u0 s0) (h1 : TVal w u1 s1) (hA0 : w.cell? ⟨A, 0, none⟩ = some u0) (hA1 : w.cell? ⟨A, 1, none⟩ = some u1) (hBL : B ≤ L) (hk : idxX s0 = some k) (h0k : 0 ≤ k) (hlt : k < (ps.length : Int)) :
    Calls Tryz.prog 36 #[.pointer none, .pointer (some ⟨b, 0, none⟩), .slice (some ⟨A, 0, none⟩) 2 ca, .slice none 0 0] w (InsPost L B ps (u1, s1) k.toNat w) := by
  have hLl : L < w.heap.size := hL.lt
  have hAl : A < w.heap.size := World.block_lt_of_cell? w _ hA0
  obtain ⟨a, c, hv⟩ : ∃ a c, v = .slice a ps.length c := by
    rcases hR.1.2 with ⟨rfl, h0⟩ | ⟨g, cap, cur, rfl, _⟩
    · exact ⟨none, 0, by rw [h0]⟩
    · exact ⟨_, _, rfl⟩
  subst hv
  obtain ⟨n, hn⟩ : ∃ n, n = ps.length := ⟨_, rfl⟩
  rw [← hn] at hL hR hl
  have HN := Lib.hid hn
  have HBW : Hid (B ≤ w.heap.size) := by unfold Hid; omega
  have HB := Lib.hid hB
  have HL := Lib.hid hL
  have HR := Lib.hid hR
  have H1 := Lib.hid h1
  have HAL := Lib.hid ((((Below.refl w.heap.size w).alloc (Nat.le_refl _) (.cells #[.int .i64 0] 3)).alloc (by simp) (.cells #[.nilIface] 49)).alloc (by simp; omega) (.cells #[.iface 111 (.pointer (some ⟨w.heap.size, 0, none⟩)), .iface 112 (.pointer (some ⟨w.heap.size + 1, 0, none⟩))] 20))
  have hname := fun W (h : Below w.heap.size w W) => name_of b name fn _ W (hB.below h hB.lt)
  have HNAME := Lib.hid hname
  have HA2 := Lib.hid ((((Below.refl w.heap.size w).alloc (Nat.le_refl _) (.cells #[.int .i64 0] 3)).alloc (by simp) (.cells #[.nilIface] 49)))
  have HBQ := Lib.hid (Blk.new_at ((w.alloc (.cells #[.int .i64 0] 3)).alloc (.cells #[.nilIface] 49)) 20 #[.iface 111 (.pointer (some ⟨w.heap.size, 0, none⟩)), .iface 112 (.pointer (some ⟨w.heap.size + 1, 0, none⟩))] (n := w.heap.size + 1 + 1) (by simp))
  have HUN := Lib.hid (unpack_two name u0 u1 (.int .i64 0) .nilIface s0 k A ca (w.heap.size + 1 + 1) 2 w.heap.size (w.heap.size + 1) _ (h0.below HAL.out) hk h1.iface ((HAL.out.cell (p := ⟨A, 0, none⟩) hAl).trans hA0) ((HAL.out.cell (p := ⟨A, 1, none⟩) hAl).trans hA1) ((HBQ.out.cell 0).trans rfl) ((HBQ.out.cell 1).trans rfl)
    (((Blk.new w 3 #[.int .i64 0]).alloc _).alloc _) ((Blk.new_at (w.alloc (.cells #[.int .i64 0] 3)) 49 #[.nilIface] (n := w.heap.size + 1) (by simp)).alloc _) (by omega) (by omega) (by omega))
  obtain ⟨tv, zv, rfl⟩ := h1.iface
  clear hB hL hR h0 h1 hA0 hA1 hk hname hn
  go_enter Tryz.func36, Tryz.ntmps36
  go_wp2_with fail
  refine (recv_of b name fn _ _ HB.out).mono ?_
  rintro e w' ⟨rfl, rfl⟩
  go_wp2_with fail
  refine (HNAME.out _ HA2.out).mono ?_
  rintro e w' ⟨rfl, rfl⟩
  go_wp2_with fail
  refine HUN.out.mono ?_
  rintro e w3 ⟨rfl, hg3, hx3, ho3⟩
  have HB3 := Lib.hid (HAL.out.trans (ho3.to_below HAL.out.size (fun q _ e => by rcases e with e | e <;> omega)))
  have HL3 := Lib.hid (HL.out.below HB3.out hLl)
  have HR3 := Lib.hid (HR.out.below HB3.out)
  have H13 := Lib.hid (H1.out.below HB3.out)
  have HG3 := Lib.hid hg3
  have HX3 := Lib.hid hx3
  clear hg3 hx3 ho3
  go_wp2_with fail
  refine (check_mut L _ _ _ HL3.out).mono ?_
  rintro e w' ⟨rfl, rfl⟩
  have HLEN := Lib.hid (fun W (h : Below w3.heap.size w3 W) => list_len L n c a 0 W (HL3.out.below h HL3.out.lt))
  have HLQ := Lib.hid (fun q => (list_len L n c a 0 (w3.drewN q) (Blk.drewN HL3.out q)).mono fun e w' (h : e = .returned (.int .i64 (n : Int)) ∧ w3.drewN q = w') => (⟨h.1, h.2.symm⟩ : e = .returned (.int .i64 (n : Int)) ∧ w' = w3.drewN q))
  obtain ⟨i0, if0⟩ := blk_one HG3.out
  obtain ⟨x0, xf0⟩ := blk_one HX3.out
  obtain ⟨l0, l1, l2, lf0, lf1, lf2⟩ := blk_three HL3.out
  have d1 : decide (k < 0) = false := decide_eq_false (by omega)
  have hltn : k < (n : Int) := by have := HN.out; omega
  have d2 : decide ((n : Int) ≤ k) = false := decide_eq_false (by omega)
  obtain ⟨j, rfl⟩ : ∃ j : Nat, k = (j : Int) := ⟨k.toNat, by omega⟩
  have d3 : decide (n ≤ j) = false := by simp; omega
  clear hlt
  go_wp2_with fail
  go_quiet ((go_at_call 58; exact Calls.quiet_of_same (HLQ.out _)))
  obtain ⟨w4, hw4⟩ : ∃ x, x = w3.drewN nq := ⟨_, rfl⟩
  have HL4 : Hid (ListB w4 L (.slice a n c) 0) := hw4 ▸ Blk.drewN HL3.out nq
  have hb34 : Below w3.heap.size w3 w4 := hw4 ▸ below_dn (Below.refl _ _) nq
  have HB4 := Lib.hid (HB3.out.trans (hb34.mono HB3.out.size))
  have HR4 := Lib.hid (HR3.out.below hb34)
  have H14 := Lib.hid (H13.out.below hb34)
  have HG4 := Lib.hid (HG3.out.below hb34 HG3.out.lt)
  have HX4 := Lib.hid (HX3.out.below hb34 HX3.out.lt)
  have hlt4 := HX4.out.lt
  have hlL4 : L < w4.heap.size := HL4.out.lt
  have HO4 : Hid (w4.ownsRow B 49 1 (.slice a n c) n (ps.map (·.1))) := by have := HR4.out.1; rw [← HN.out] at this; exact this
  have HLO : Hid (some L ≠ (Value.slice a n c).ownBlock) := fun e => own_ne_blk HR4.out.1 HL4.out (by decide) L e.symm rfl
  have HXO : Hid (some (w.heap.size + 1) ≠ (Value.slice a n c).ownBlock) := fun e => by have := (HR.out.1.lt (w.heap.size + 1) e.symm).2; omega
  have hBw4 : B ≤ w4.heap.size := Nat.le_trans HBW.out HB4.out.size
  obtain ⟨j0, hj0, hj1, hj2, hj3⟩ := info_parts Tryz.infoV
  have HJ := Lib.hid (And.intro hj0 (And.intro hj1 (And.intro hj2 hj3)))
  rw [← hw4]
  clear i0 if0 x0 xf0 l0 l1 l2 lf0 lf1 lf2 hb34 hw4 hj0 hj1 hj2 hj3
  obtain ⟨i0, if0⟩ := blk_one HG4.out
  obtain ⟨x0, xf0⟩ := blk_one HX4.out
  obtain ⟨l0, l1, l2, lf0, lf1, lf2⟩ := blk_three HL4.out
  have HGO : Hid (some w.heap.size ≠ (Value.slice a n c).ownBlock) := fun e => by have := (HR.out.1.lt w.heap.size e.symm).2; omega
  have HRL := Lib.hid (fun q (e : (Value.slice a n c).ownBlock = some q) => (HR.out.1.lt q e).2)
  have hjs : j < n := by omega
  go_wp2_with (at_builtin; refine wpList_append_lies _ (by rfl) _ _ _ (by rfl) B 49 j0 _ 1 16 Tryz.underlying45 HJ.out.1 HJ.out.2.1 HJ.out.2.2.1 HJ.out.2.2.2 rfl (by omega) (.slice a n c) n (ps.map (·.1)) (by rfl) (HO4.out.alloc _) ⟨w4.heap.size, 0, none⟩ 1 1 [.nilIface] (by rfl) (by rfl) (World.news_of_block (cs := #[.nilIface]) (t := 49) (fr := (0, 0)) (heap_alloc_new w4 _)) (by simp [Value.oneCell']) (by omega) (by unfold maxLen; omega) (by omega) (by simp; omega) (w4.heap.size + 1) (by simp) ?_; intro gg cap w5 hown5 hgrow hat hlt; have l5 : w5.cell? ⟨L, 0, none⟩ = some (.slice a n c) := (hgrow.cell_far ⟨L, 0, none⟩ (by simp; omega) HLO.out).trans ((Blk.alloc HL4.out _).cell 0); have lf5 : w5.frozen? ⟨L, 0, none⟩ = false := (hgrow.frozen_far ⟨L, 0, none⟩ (by simp; omega) HLO.out).trans ((Blk.alloc HL4.out _).frozen 0))
  obtain ⟨w6, hw6⟩ : ∃ x, x = w5.setCell ⟨L, 0, none⟩ (.slice (some ⟨gg, 0, none⟩) (n + 1) cap) := ⟨_, rfl⟩
  have hL5 : Blk w5 L 90 #[.slice a n c, .bool false, .int .u32 0] := Blk.grown (Blk.alloc HL4.out _) hgrow HLO.out
  have hG5 := Blk.grown (Blk.alloc HG4.out (.cells #[.nilIface] 49)) hgrow HGO.out
  have hX5 := Blk.grown (Blk.alloc HX4.out (.cells #[.nilIface] 49)) hgrow HXO.out
  have ho56 : Only (· = L) w5 w6 := hw6 ▸ (Only.refl (· = L) w5).setCell (p := ⟨L, 0, none⟩) (.inl (rfl : L = L)) _
  have hL6 : Blk w6 L 90 #[.slice (some ⟨gg, 0, none⟩) (n + 1) cap, .bool false, .int .u32 0] := hw6 ▸ (by have := Blk.put hL5 0 (.slice (some ⟨gg, 0, none⟩) (n + 1) cap); simpa using this)
  have hG6 := hG5.only ho56 (by omega)
  have hX6 := hX5.only ho56 (by omega)
  have hggL : gg ≠ L := own_ne_blk hown5 hL5 (by decide) gg rfl
  have hgg2 : gg ≠ w.heap.size ∧ gg ≠ w.heap.size + 1 := by
    rcases hat with h | h
    · have := HRL.out gg h; omega
    · omega
  have hown6 : w6.ownsRow B 49 1 (.slice (some ⟨gg, 0, none⟩) (n + 1) cap) (n + 1) (ps.map (·.1) ++ [.nilIface]) := own_only hown5 ho56 (fun q hq e => by injection hq with hq; exact hggL (by rw [← e, ← hq]))
  have hcap : n + 1 ≤ cap := by
    rcases hown6.2 with ⟨h, _⟩ | ⟨q, cp, cur, h, _, _, h1, _⟩
    · simp at h
    · injection h with _ _ h; rw [h]; exact h1
  have hba : Below w4.heap.size w4 (w4.alloc (.cells #[.nilIface] 49)) := (Below.refl _ _).alloc (Nat.le_refl _) _
  have htv6 : ∀ q ∈ insL ps j (Value.iface tv zv, s1), TVal w6 q.1 q.2 := fun q hq => by
    have h4 : TVal w4 q.1 q.2 := by
      unfold insL at hq
      rcases List.mem_append.1 hq with hq | hq
      · exact HR4.out.2 q (List.mem_of_mem_take hq)
      · rcases List.mem_cons.1 hq with rfl | hq
        · exact H14.out
        · exact HR4.out.2 q (List.mem_of_mem_drop hq)
    exact ((h4.below hba).grown (own_below HO4.out hba) (by decide) (by decide) hgrow).apart (fun g e _ => ⟨_, _, by subst e; exact hL5, by decide, by decide⟩) ho56
  have hb6 : Below B w w6 := ((HB4.out.mono HBW.out).trans ((hba.mono hBw4).grown hgrow (Nat.le_trans hBw4 hba.size) fun q hq => ((own_below HO4.out hba).lt q hq).1)).trans (ho56.to_below (by have := hgrow.size; simp at this; omega) (fun q _ e => by omega))
  have HL6 := Lib.hid hL6
  have HG6 := Lib.hid hG6
  have HX6 := Lib.hid hX6
  have HOWN6 := Lib.hid hown6
  have HTV6 := Lib.hid htv6
  have HB6 := Lib.hid hb6
  have hlL6 := hL6.lt
  have hlg6 := hown6.lt gg rfl
  have hs1 : ∀ W : World, (Instr.slice 45 (.slice (some ⟨gg, 0, none⟩) (n + 1) cap) (some (.int .i64 ((j : Int) + 1))) none none).run Tryz.prog W = .ok (.slice (some ⟨gg, j + 1, none⟩) (n - j) (cap - (j + 1))) W := fun W => by
    have := row_from gg (n + 1) cap (j + 1) (by omega) hcap W
    rwa [show n + 1 - (j + 1) = n - j by omega, show ((j + 1 : Nat) : Int) = (j : Int) + 1 by omega] at this
  have hs2 : ∀ W : World, (Instr.slice 45 (.slice (some ⟨gg, 0, none⟩) (n + 1) cap) (some (.int .i64 (j : Int))) none none).run Tryz.prog W = .ok (.slice (some ⟨gg, j, none⟩) (n + 1 - j) (cap - j)) W := fun W => row_from gg (n + 1) cap j (by omega) hcap W
  rw [← hw6]
  clear hL5 hG5 hX5 ho56 hL6 hG6 hX6 hown5 hown6 hgrow hat hlt htv6 hb6 hba l5 lf5 hw6 i0 if0 x0 xf0 l0 l1 l2 lf0 lf1 lf2
  obtain ⟨i0, if0⟩ := blk_one HG6.out
  obtain ⟨x0, xf0⟩ := blk_one HX6.out
  obtain ⟨l0, l1, l2, lf0, lf1, lf2⟩ := blk_three HL6.out
  have hwj : IntKind.i64.wrap ((j : Int) + 1) = (j : Int) + 1 := by rw [IntKind.wrap_i64]; omega
  go_wp2_with fail
  go_still_tail 13, (by kernel_rfl)
  clear hwj hs1 hs2
  have hvl : (ps.map (·.1) ++ [Value.nilIface]).length = n + 1 := by simp [HN.out]
  have hone : ∀ x ∈ ps.map (·.1) ++ [Value.nilIface], x.oneCell' = true := by
    intro x hx
    rcases List.mem_append.1 hx with hx | hx
    · obtain ⟨q, hq, rfl⟩ := List.mem_map.1 hx
      obtain ⟨t, y, hty⟩ := (HR.out.2 q hq).iface
      rw [hty]; rfl
    · simp at hx; subst hx; rfl
  refine wpList_copy_up rfl (.tmp 73) (.tmp 79) rfl B gg n cap j _ _ _ hvl hjs rfl rfl HOWN6.out.drew hone ?_
  intro w7 hown7 ho7
  have hL7 := Blk.only (Blk.drew HL6.out) ho7 (fun e => hggL e.symm)
  have hG7 := Blk.only (Blk.drew HG6.out) ho7 (fun e => hgg2.1 e.symm)
  have hX7 := Blk.only (Blk.drew HX6.out) ho7 (fun e => hgg2.2 e.symm)
  have hcj : ∃ u, w7.cell? ⟨gg, j, none⟩ = some u := by
    have hl7 : j < (((ps.map (·.1) ++ [Value.nilIface]).take (j + 1)) ++ ((ps.map (·.1) ++ [Value.nilIface]).drop j).take (n - j)).length := by
      rw [List.length_append, List.length_take, hvl]; omega
    have := hown7.cells (g := gg) rfl j _ (List.getElem?_eq_getElem hl7)
    rw [Addr.add_lit] at this
    exact ⟨_, by simpa using this⟩
  obtain ⟨u7, hu7⟩ := hcj
  have hf7 : w7.frozen? ⟨gg, j, none⟩ = false := World.ownsRow.frozenAt hown7 j
  have HF : Hid (∀ w8, w8 = w7.drew.setCell ⟨gg, j, none⟩ (.iface tv zv) → InsPost L B ps (.iface tv zv, s1) j w (.returned (.tuple #[.iface 91 (.int .u8 0), .nilIface])) w8) := by
    rintro w8 rfl
    have hst := (hown7.drew.stored j (Value.iface tv zv)).1
    have ho8 : Only (· = gg) w6 (w7.drew.setCell ⟨gg, j, none⟩ (.iface tv zv)) := (((Only.refl (· = gg) w6).drew).trans (ho7.mono (fun q _ e => e))).drew.setCell (p := ⟨gg, j, none⟩) (.inl (rfl : gg = gg)) _
    have hgb : ∀ g, g = gg → ∃ t cs, Blk w6 g t cs ∧ 138 ≠ t ∧ 194 ≠ t := by
      obtain ⟨cs, hb⟩ := Blk.of_own (g := gg) (n := 0) (c := 0) HOWN6.out rfl
      rintro g rfl
      exact ⟨_, _, hb, by decide, by decide⟩
    refine ⟨rfl, _, Blk.only HL6.out ho8 (fun e => hggL e.symm), ⟨?_, fun q hq => (HTV6.out q hq).apart (fun g e _ => hgb g e) ho8⟩, HB6.out.trans (ho8.to_below (by have := hlg6.1; have := hlg6.2; omega) (fun q _ e => by have := hlg6.1; omega))⟩
    · have e1 : (insL ps j (Value.iface tv zv, s1)).map (·.1) = ((ps.map (·.1) ++ [Value.nilIface]).take (j + 1) ++ ((ps.map (·.1) ++ [Value.nilIface]).drop j).take (n - j)).set j (Value.iface tv zv) := by
        have := ins_list (ps.map (·.1)) Value.nilIface (Value.iface tv zv) j (by simp [← HN.out]; exact hjs)
        rw [List.length_map, ← HN.out] at this
        rw [this]
        simp [insL]
      have e2 : (insL ps j (Value.iface tv zv, s1)).length = n + 1 := by simp [insL, ← HN.out]; omega
      rw [e1, e2]
      exact hst
  have HL7 := Lib.hid hL7
  clear hown7 ho7 hvl hone HB6 HTV6 i0 if0 x0 xf0 l0 l1 l2 lf0 lf1 lf2
  obtain ⟨i0, if0⟩ := blk_one hG7
  obtain ⟨x0, xf0⟩ := blk_one hX7
  obtain ⟨l0, l1, l2, lf0, lf1, lf2⟩ := blk_three HL7.out
  clear hL7 hG7 hX7
  go_wp2_with fail
  have hj0 : (0 : Int) ≤ (j : Int) := by omega
  have hj1 : (j : Int) < ((n + 1 : Nat) : Int) := by omega
  have hj2 : (j : Int) < (n : Int) + 1 := by omega
  have hj3 : j < n + 1 := by omega
  go_still_tail 7, (by kernel_rfl)
  go_wp2
  go_ret2
  exact HF.out _ rfl
set_option maxRecDepth 100000 in
set_option maxHeartbeats 4000000 in
theorem ins_back (w : World) (L b A ca B : Nat) (v u0 u1 : Value) (s0 s1 : Sx) (k : Int) (ps : List (Value × Sx)) (name : ByteArray) (fn : Value) (hB : BuiltinAt w b name fn (.iface 42 (.pointer (some ⟨L, 0, none⟩)))) (hL : ListB w L v 0) (hR : RowT w B v ps) (hl : ps.length ≤ 1000)
    (h0 : TVal w u0 s0) (h1 : TVal w u1 s1) (hA0 : w.cell? ⟨A, 0, none⟩ = some u0) (hA1 : w.cell? ⟨A, 1, none⟩ = some u1) (hBL : B ≤ L) (hk : idxX s0 = some k) (h0k : k < 0) (j : Nat) (hkj : k + (ps.length : Int) = (j : Int)) :
    Calls Tryz.prog 36 #[.pointer none, .pointer (some ⟨b, 0, none⟩), .slice (some ⟨A, 0, none⟩) 2 ca, .slice none 0 0] w (InsPost L B ps (u1, s1) j w) := by
  have hLl : L < w.heap.size := hL.lt
  have hAl : A < w.heap.size := World.block_lt_of_cell? w _ hA0
  obtain ⟨a, c, hv⟩ : ∃ a c, v = .slice a ps.length c := by
    rcases hR.1.2 with ⟨rfl, h0⟩ | ⟨g, cap, cur, rfl, _⟩
    · exact ⟨none, 0, by rw [h0]⟩
    · exact ⟨_, _, rfl⟩
  subst hv
  obtain ⟨n, hn⟩ : ∃ n, n = ps.length := ⟨_, rfl⟩
  rw [← hn] at hL hR hl
  have HN := Lib.hid hn
  have HBW : Hid (B ≤ w.heap.size) := by unfold Hid; omega
  have HB := Lib.hid hB
  have HL := Lib.hid hL
  have HR := Lib.hid hR
  have H1 := Lib.hid h1
  have HAL := Lib.hid ((((Below.refl w.heap.size w).alloc (Nat.le_refl _) (.cells #[.int .i64 0] 3)).alloc (by simp) (.cells #[.nilIface] 49)).alloc (by simp; omega) (.cells #[.iface 111 (.pointer (some ⟨w.heap.size, 0, none⟩)), .iface 112 (.pointer (some ⟨w.heap.size + 1, 0, none⟩))] 20))
  have hname := fun W (h : Below w.heap.size w W) => name_of b name fn _ W (hB.below h hB.lt)
  have HNAME := Lib.hid hname
  have HA2 := Lib.hid ((((Below.refl w.heap.size w).alloc (Nat.le_refl _) (.cells #[.int .i64 0] 3)).alloc (by simp) (.cells #[.nilIface] 49)))
  have HBQ := Lib.hid (Blk.new_at ((w.alloc (.cells #[.int .i64 0] 3)).alloc (.cells #[.nilIface] 49)) 20 #[.iface 111 (.pointer (some ⟨w.heap.size, 0, none⟩)), .iface 112 (.pointer (some ⟨w.heap.size + 1, 0, none⟩))] (n := w.heap.size + 1 + 1) (by simp))
  have HUN := Lib.hid (unpack_two name u0 u1 (.int .i64 0) .nilIface s0 k A ca (w.heap.size + 1 + 1) 2 w.heap.size (w.heap.size + 1) _ (h0.below HAL.out) hk h1.iface ((HAL.out.cell (p := ⟨A, 0, none⟩) hAl).trans hA0) ((HAL.out.cell (p := ⟨A, 1, none⟩) hAl).trans hA1) ((HBQ.out.cell 0).trans rfl) ((HBQ.out.cell 1).trans rfl)
    (((Blk.new w 3 #[.int .i64 0]).alloc _).alloc _) ((Blk.new_at (w.alloc (.cells #[.int .i64 0] 3)) 49 #[.nilIface] (n := w.heap.size + 1) (by simp)).alloc _) (by omega) (by omega) (by omega))
  obtain ⟨tv, zv, rfl⟩ := h1.iface
  clear hB hL hR h0 h1 hA0 hA1 hk hname hn
  go_enter Tryz.func36, Tryz.ntmps36
  go_wp2_with fail
  refine (recv_of b name fn _ _ HB.out).mono ?_
  rintro e w' ⟨rfl, rfl⟩
  go_wp2_with fail
  refine (HNAME.out _ HA2.out).mono ?_
  rintro e w' ⟨rfl, rfl⟩
  go_wp2_with fail
  refine HUN.out.mono ?_
  rintro e w3 ⟨rfl, hg3, hx3, ho3⟩
  have HB3 := Lib.hid (HAL.out.trans (ho3.to_below HAL.out.size (fun q _ e => by rcases e with e | e <;> omega)))
  have HL3 := Lib.hid (HL.out.below HB3.out hLl)
  have HR3 := Lib.hid (HR.out.below HB3.out)
  have H13 := Lib.hid (H1.out.below HB3.out)
  have HG3 := Lib.hid hg3
  have HX3 := Lib.hid hx3
  clear hg3 hx3 ho3
  go_wp2_with fail
  refine (check_mut L _ _ _ HL3.out).mono ?_
  rintro e w' ⟨rfl, rfl⟩
  have HLEN := Lib.hid (fun W (h : Below w3.heap.size w3 W) => list_len L n c a 0 W (HL3.out.below h HL3.out.lt))
  have HLQ := Lib.hid (fun q => (list_len L n c a 0 (w3.drewN q) (Blk.drewN HL3.out q)).mono fun e w' (h : e = .returned (.int .i64 (n : Int)) ∧ w3.drewN q = w') => (⟨h.1, h.2.symm⟩ : e = .returned (.int .i64 (n : Int)) ∧ w' = w3.drewN q))
  obtain ⟨i0, if0⟩ := blk_one HG3.out
  obtain ⟨x0, xf0⟩ := blk_one HX3.out
  obtain ⟨l0, l1, l2, lf0, lf1, lf2⟩ := blk_three HL3.out
  have d1 : decide (k < 0) = true := decide_eq_true h0k
  have hn0 := HN.out
  have hj : k + (n : Int) = (j : Int) := by omega
  have hjn : j < n := by omega
  have hwk : IntKind.i64.wrap (k + (n : Int)) = (j : Int) := by rw [IntKind.wrap_i64]; omega
  have d3 : decide (n ≤ j) = false := by simp; omega
  clear h0k hn0 hj hkj
  go_wp2_with fail
  go_region_with (go_at_call 58; refine (HLEN.out _ (Below.refl _ _).drew).mono ?_; rintro e w' ⟨rfl, rfl⟩)
  all_goals
    obtain ⟨w3b, hw3⟩ : ∃ x, x = (w3.setCell ⟨w.heap.size, 0, none⟩ (.int .i64 (j : Int))).drew := ⟨_, rfl⟩
    have ho3 : Only (· = w.heap.size) w3 w3b := hw3 ▸ ((Only.refl (· = w.heap.size) w3).setCell (p := ⟨w.heap.size, 0, none⟩) (.inl (rfl : w.heap.size = w.heap.size)) _).drew
    have HL3b : Hid (ListB w3b L (.slice a n c) 0) := Blk.only HL3.out ho3 (by omega)
    have HB3b := Lib.hid (HB3.out.trans (ho3.to_below HB3.out.size (fun q _ e => by omega)))
    have hint : ∀ g, g = w.heap.size → g < w3.heap.size → ∃ t cs, Blk w3 g t cs ∧ 138 ≠ t ∧ 194 ≠ t := by
      rintro g rfl _
      exact ⟨_, _, HG3.out, by decide, by decide⟩
    have HR3b : Hid (RowT w3b B (.slice a n c) ps) := HR3.out.apart (fun q hq e => by have := (HR.out.1.lt q hq).2; omega) hint ho3
    have H13b : Hid (TVal w3b (.iface tv zv) s1) := H13.out.apart hint ho3
    have HG3b : Hid (Blk w3b w.heap.size 3 #[.int .i64 (j : Int)]) := hw3 ▸ (one_put HG3.out _).drew
    have HX3b : Hid (Blk w3b (w.heap.size + 1) 49 #[.iface tv zv]) := Blk.only HX3.out ho3 (by omega)
    have HLQb := Lib.hid (fun q => (list_len L n c a 0 (w3b.drewN q) (Blk.drewN HL3b.out q)).mono fun e w' (h : e = .returned (.int .i64 (n : Int)) ∧ w3b.drewN q = w') => (⟨h.1, h.2.symm⟩ : e = .returned (.int .i64 (n : Int)) ∧ w' = w3b.drewN q))
    rw [← hw3]
    clear hw3 ho3 hint hwk i0 if0 x0 xf0 l0 l1 l2 lf0 lf1 lf2
    obtain ⟨i0, if0⟩ := blk_one HG3b.out
    obtain ⟨x0, xf0⟩ := blk_one HX3b.out
    obtain ⟨l0, l1, l2, lf0, lf1, lf2⟩ := blk_three HL3b.out
    go_wp2_with fail
    go_quiet ((go_at_call 58; exact Calls.quiet_of_same (HLQb.out _)))
    obtain ⟨w4, hw4⟩ : ∃ x, x = w3b.drewN nq := ⟨_, rfl⟩
    have HL4 : Hid (ListB w4 L (.slice a n c) 0) := hw4 ▸ Blk.drewN HL3b.out nq
    have hb34 : Below w3b.heap.size w3b w4 := hw4 ▸ below_dn (Below.refl _ _) nq
    have HB4 := Lib.hid (HB3b.out.trans (hb34.mono HB3b.out.size))
    have HR4 := Lib.hid (HR3b.out.below hb34)
    have H14 := Lib.hid (H13b.out.below hb34)
    have HG4 := Lib.hid (HG3b.out.below hb34 HG3b.out.lt)
    have HX4 := Lib.hid (HX3b.out.below hb34 HX3b.out.lt)
    have hlt4 := HX4.out.lt
    have hlL4 : L < w4.heap.size := HL4.out.lt
    have HO4 : Hid (w4.ownsRow B 49 1 (.slice a n c) n (ps.map (·.1))) := by have := HR4.out.1; rw [← HN.out] at this; exact this
    have HLO : Hid (some L ≠ (Value.slice a n c).ownBlock) := fun e => own_ne_blk HR4.out.1 HL4.out (by decide) L e.symm rfl
    have HXO : Hid (some (w.heap.size + 1) ≠ (Value.slice a n c).ownBlock) := fun e => by have := (HR.out.1.lt (w.heap.size + 1) e.symm).2; omega
    have hBw4 : B ≤ w4.heap.size := Nat.le_trans HBW.out HB4.out.size
    obtain ⟨j0, hj0, hj1, hj2, hj3⟩ := info_parts Tryz.infoV
    have HJ := Lib.hid (And.intro hj0 (And.intro hj1 (And.intro hj2 hj3)))
    rw [← hw4]
    clear i0 if0 x0 xf0 l0 l1 l2 lf0 lf1 lf2 hb34 hw4 hj0 hj1 hj2 hj3
    obtain ⟨i0, if0⟩ := blk_one HG4.out
    obtain ⟨x0, xf0⟩ := blk_one HX4.out
    obtain ⟨l0, l1, l2, lf0, lf1, lf2⟩ := blk_three HL4.out
    have HGO : Hid (some w.heap.size ≠ (Value.slice a n c).ownBlock) := fun e => by have := (HR.out.1.lt w.heap.size e.symm).2; omega
    have HRL := Lib.hid (fun q (e : (Value.slice a n c).ownBlock = some q) => (HR.out.1.lt q e).2)
    have hjs : j < n := by omega
    go_wp2_with (at_builtin; refine wpList_append_lies _ (by rfl) _ _ _ (by rfl) B 49 j0 _ 1 16 Tryz.underlying45 HJ.out.1 HJ.out.2.1 HJ.out.2.2.1 HJ.out.2.2.2 rfl (by omega) (.slice a n c) n (ps.map (·.1)) (by rfl) (HO4.out.alloc _) ⟨w4.heap.size, 0, none⟩ 1 1 [.nilIface] (by rfl) (by rfl) (World.news_of_block (cs := #[.nilIface]) (t := 49) (fr := (0, 0)) (heap_alloc_new w4 _)) (by simp [Value.oneCell']) (by omega) (by unfold maxLen; omega) (by omega) (by simp; omega) (w4.heap.size + 1) (by simp) ?_; intro gg cap w5 hown5 hgrow hat hlt; have l5 : w5.cell? ⟨L, 0, none⟩ = some (.slice a n c) := (hgrow.cell_far ⟨L, 0, none⟩ (by simp; omega) HLO.out).trans ((Blk.alloc HL4.out _).cell 0); have lf5 : w5.frozen? ⟨L, 0, none⟩ = false := (hgrow.frozen_far ⟨L, 0, none⟩ (by simp; omega) HLO.out).trans ((Blk.alloc HL4.out _).frozen 0))
    obtain ⟨w6, hw6⟩ : ∃ x, x = w5.setCell ⟨L, 0, none⟩ (.slice (some ⟨gg, 0, none⟩) (n + 1) cap) := ⟨_, rfl⟩
    have hL5 : Blk w5 L 90 #[.slice a n c, .bool false, .int .u32 0] := Blk.grown (Blk.alloc HL4.out _) hgrow HLO.out
    have hG5 := Blk.grown (Blk.alloc HG4.out (.cells #[.nilIface] 49)) hgrow HGO.out
    have hX5 := Blk.grown (Blk.alloc HX4.out (.cells #[.nilIface] 49)) hgrow HXO.out
    have ho56 : Only (· = L) w5 w6 := hw6 ▸ (Only.refl (· = L) w5).setCell (p := ⟨L, 0, none⟩) (.inl (rfl : L = L)) _
    have hL6 : Blk w6 L 90 #[.slice (some ⟨gg, 0, none⟩) (n + 1) cap, .bool false, .int .u32 0] := hw6 ▸ (by have := Blk.put hL5 0 (.slice (some ⟨gg, 0, none⟩) (n + 1) cap); simpa using this)
    have hG6 := hG5.only ho56 (by omega)
    have hX6 := hX5.only ho56 (by omega)
    have hggL : gg ≠ L := own_ne_blk hown5 hL5 (by decide) gg rfl
    have hgg2 : gg ≠ w.heap.size ∧ gg ≠ w.heap.size + 1 := by
      rcases hat with h | h
      · have := HRL.out gg h; omega
      · omega
    have hown6 : w6.ownsRow B 49 1 (.slice (some ⟨gg, 0, none⟩) (n + 1) cap) (n + 1) (ps.map (·.1) ++ [.nilIface]) := own_only hown5 ho56 (fun q hq e => by injection hq with hq; exact hggL (by rw [← e, ← hq]))
    have hcap : n + 1 ≤ cap := by
      rcases hown6.2 with ⟨h, _⟩ | ⟨q, cp, cur, h, _, _, h1, _⟩
      · simp at h
      · injection h with _ _ h; rw [h]; exact h1
    have hba : Below w4.heap.size w4 (w4.alloc (.cells #[.nilIface] 49)) := (Below.refl _ _).alloc (Nat.le_refl _) _
    have htv6 : ∀ q ∈ insL ps j (Value.iface tv zv, s1), TVal w6 q.1 q.2 := fun q hq => by
      have h4 : TVal w4 q.1 q.2 := by
        unfold insL at hq
        rcases List.mem_append.1 hq with hq | hq
        · exact HR4.out.2 q (List.mem_of_mem_take hq)
        · rcases List.mem_cons.1 hq with rfl | hq
          · exact H14.out
          · exact HR4.out.2 q (List.mem_of_mem_drop hq)
      exact ((h4.below hba).grown (own_below HO4.out hba) (by decide) (by decide) hgrow).apart (fun g e _ => ⟨_, _, by subst e; exact hL5, by decide, by decide⟩) ho56
    have hb6 : Below B w w6 := ((HB4.out.mono HBW.out).trans ((hba.mono hBw4).grown hgrow (Nat.le_trans hBw4 hba.size) fun q hq => ((own_below HO4.out hba).lt q hq).1)).trans (ho56.to_below (by have := hgrow.size; simp at this; omega) (fun q _ e => by omega))
    have HL6 := Lib.hid hL6
    have HG6 := Lib.hid hG6
    have HX6 := Lib.hid hX6
    have HOWN6 := Lib.hid hown6
    have HTV6 := Lib.hid htv6
    have HB6 := Lib.hid hb6
    have hlL6 := hL6.lt
    have hlg6 := hown6.lt gg rfl
    have hs1 : ∀ W : World, (Instr.slice 45 (.slice (some ⟨gg, 0, none⟩) (n + 1) cap) (some (.int .i64 ((j : Int) + 1))) none none).run Tryz.prog W = .ok (.slice (some ⟨gg, j + 1, none⟩) (n - j) (cap - (j + 1))) W := fun W => by
      have := row_from gg (n + 1) cap (j + 1) (by omega) hcap W
      rwa [show n + 1 - (j + 1) = n - j by omega, show ((j + 1 : Nat) : Int) = (j : Int) + 1 by omega] at this
    have hs2 : ∀ W : World, (Instr.slice 45 (.slice (some ⟨gg, 0, none⟩) (n + 1) cap) (some (.int .i64 (j : Int))) none none).run Tryz.prog W = .ok (.slice (some ⟨gg, j, none⟩) (n + 1 - j) (cap - j)) W := fun W => row_from gg (n + 1) cap j (by omega) hcap W
    rw [← hw6]
    clear hL5 hG5 hX5 ho56 hL6 hG6 hX6 hown5 hown6 hgrow hat hlt htv6 hb6 hba l5 lf5 hw6 i0 if0 x0 xf0 l0 l1 l2 lf0 lf1 lf2
    obtain ⟨i0, if0⟩ := blk_one HG6.out
    obtain ⟨x0, xf0⟩ := blk_one HX6.out
    obtain ⟨l0, l1, l2, lf0, lf1, lf2⟩ := blk_three HL6.out
    have hwj : IntKind.i64.wrap ((j : Int) + 1) = (j : Int) + 1 := by rw [IntKind.wrap_i64]; omega
    go_wp2_with fail
    go_still_tail 13, (by kernel_rfl)
    clear hwj hs1 hs2
    have hvl : (ps.map (·.1) ++ [Value.nilIface]).length = n + 1 := by simp [HN.out]
    have hone : ∀ x ∈ ps.map (·.1) ++ [Value.nilIface], x.oneCell' = true := by
      intro x hx
      rcases List.mem_append.1 hx with hx | hx
      · obtain ⟨q, hq, rfl⟩ := List.mem_map.1 hx
        obtain ⟨t, y, hty⟩ := (HR.out.2 q hq).iface
        rw [hty]; rfl
      · simp at hx; subst hx; rfl
    refine wpList_copy_up rfl (.tmp 73) (.tmp 79) rfl B gg n cap j _ _ _ hvl hjs rfl rfl HOWN6.out.drew hone ?_
    intro w7 hown7 ho7
    have hL7 := Blk.only (Blk.drew HL6.out) ho7 (fun e => hggL e.symm)
    have hG7 := Blk.only (Blk.drew HG6.out) ho7 (fun e => hgg2.1 e.symm)
    have hX7 := Blk.only (Blk.drew HX6.out) ho7 (fun e => hgg2.2 e.symm)
    have hcj : ∃ u, w7.cell? ⟨gg, j, none⟩ = some u := by
      have hl7 : j < (((ps.map (·.1) ++ [Value.nilIface]).take (j + 1)) ++ ((ps.map (·.1) ++ [Value.nilIface]).drop j).take (n - j)).length := by
        rw [List.length_append, List.length_take, hvl]; omega
      have := hown7.cells (g := gg) rfl j _ (List.getElem?_eq_getElem hl7)
      rw [Addr.add_lit] at this
      exact ⟨_, by simpa using this⟩
    obtain ⟨u7, hu7⟩ := hcj
    have hf7 : w7.frozen? ⟨gg, j, none⟩ = false := World.ownsRow.frozenAt hown7 j
    have HF : Hid (∀ w8, w8 = w7.drew.setCell ⟨gg, j, none⟩ (.iface tv zv) → InsPost L B ps (.iface tv zv, s1) j w (.returned (.tuple #[.iface 91 (.int .u8 0), .nilIface])) w8) := by
      rintro w8 rfl
      have hst := (hown7.drew.stored j (Value.iface tv zv)).1
      have ho8 : Only (· = gg) w6 (w7.drew.setCell ⟨gg, j, none⟩ (.iface tv zv)) := (((Only.refl (· = gg) w6).drew).trans (ho7.mono (fun q _ e => e))).drew.setCell (p := ⟨gg, j, none⟩) (.inl (rfl : gg = gg)) _
      have hgb : ∀ g, g = gg → ∃ t cs, Blk w6 g t cs ∧ 138 ≠ t ∧ 194 ≠ t := by
        obtain ⟨cs, hb⟩ := Blk.of_own (g := gg) (n := 0) (c := 0) HOWN6.out rfl
        rintro g rfl
        exact ⟨_, _, hb, by decide, by decide⟩
      refine ⟨rfl, _, Blk.only HL6.out ho8 (fun e => hggL e.symm), ⟨?_, fun q hq => (HTV6.out q hq).apart (fun g e _ => hgb g e) ho8⟩, HB6.out.trans (ho8.to_below (by have := hlg6.1; have := hlg6.2; omega) (fun q _ e => by have := hlg6.1; omega))⟩
      · have e1 : (insL ps j (Value.iface tv zv, s1)).map (·.1) = ((ps.map (·.1) ++ [Value.nilIface]).take (j + 1) ++ ((ps.map (·.1) ++ [Value.nilIface]).drop j).take (n - j)).set j (Value.iface tv zv) := by
          have := ins_list (ps.map (·.1)) Value.nilIface (Value.iface tv zv) j (by simp [← HN.out]; exact hjs)
          rw [List.length_map, ← HN.out] at this
          rw [this]
          simp [insL]
        have e2 : (insL ps j (Value.iface tv zv, s1)).length = n + 1 := by simp [insL, ← HN.out]; omega
        rw [e1, e2]
        exact hst
    have HL7 := Lib.hid hL7
    clear hown7 ho7 hvl hone HB6 HTV6 i0 if0 x0 xf0 l0 l1 l2 lf0 lf1 lf2
    obtain ⟨i0, if0⟩ := blk_one hG7
    obtain ⟨x0, xf0⟩ := blk_one hX7
    obtain ⟨l0, l1, l2, lf0, lf1, lf2⟩ := blk_three HL7.out
    clear hL7 hG7 hX7
    go_wp2_with fail
    have hj0 : (0 : Int) ≤ (j : Int) := by omega
    have hj1 : (j : Int) < ((n + 1 : Nat) : Int) := by omega
    have hj2 : (j : Int) < (n : Int) + 1 := by omega
    have hj3 : j < n + 1 := by omega
    go_still_tail 7, (by kernel_rfl)
    go_wp2
    go_ret2
    exact HF.out _ rfl
set_option maxRecDepth 100000 in
set_option maxHeartbeats 4000000 in
theorem ins_front (w : World) (L b A ca B : Nat) (v u0 u1 : Value) (s0 s1 : Sx) (k : Int) (ps : List (Value × Sx)) (name : ByteArray) (fn : Value) (hB : BuiltinAt w b name fn (.iface 42 (.pointer (some ⟨L, 0, none⟩)))) (hL : ListB w L v 0) (hR : RowT w B v ps) (hl : ps.length ≤ 1000)
    (h0 : TVal w u0 s0) (h1 : TVal w u1 s1) (hA0 : w.cell? ⟨A, 0, none⟩ = some u0) (hA1 : w.cell? ⟨A, 1, none⟩ = some u1) (hBL : B ≤ L) (hk : idxX s0 = some k) (hk64 : -9223372036854775808 ≤ k) (hlt : k + (ps.length : Int) < 0) (hpos : 0 < ps.length) (j : Nat) (hjz : j = 0) :
    Calls Tryz.prog 36 #[.pointer none, .pointer (some ⟨b, 0, none⟩), .slice (some ⟨A, 0, none⟩) 2 ca, .slice none 0 0] w (InsPost L B ps (u1, s1) j w) := by
  have hLl : L < w.heap.size := hL.lt
  have hAl : A < w.heap.size := World.block_lt_of_cell? w _ hA0
  obtain ⟨a, c, hv⟩ : ∃ a c, v = .slice a ps.length c := by
    rcases hR.1.2 with ⟨rfl, h0⟩ | ⟨g, cap, cur, rfl, _⟩
    · exact ⟨none, 0, by rw [h0]⟩
    · exact ⟨_, _, rfl⟩
  subst hv
  obtain ⟨n, hn⟩ : ∃ n, n = ps.length := ⟨_, rfl⟩
  rw [← hn] at hL hR hl
  have HN := Lib.hid hn
  have HBW : Hid (B ≤ w.heap.size) := by unfold Hid; omega
  have HB := Lib.hid hB
  have HL := Lib.hid hL
  have HR := Lib.hid hR
  have H1 := Lib.hid h1
  have HAL := Lib.hid ((((Below.refl w.heap.size w).alloc (Nat.le_refl _) (.cells #[.int .i64 0] 3)).alloc (by simp) (.cells #[.nilIface] 49)).alloc (by simp; omega) (.cells #[.iface 111 (.pointer (some ⟨w.heap.size, 0, none⟩)), .iface 112 (.pointer (some ⟨w.heap.size + 1, 0, none⟩))] 20))
  have hname := fun W (h : Below w.heap.size w W) => name_of b name fn _ W (hB.below h hB.lt)
  have HNAME := Lib.hid hname
  have HA2 := Lib.hid ((((Below.refl w.heap.size w).alloc (Nat.le_refl _) (.cells #[.int .i64 0] 3)).alloc (by simp) (.cells #[.nilIface] 49)))
  have HBQ := Lib.hid (Blk.new_at ((w.alloc (.cells #[.int .i64 0] 3)).alloc (.cells #[.nilIface] 49)) 20 #[.iface 111 (.pointer (some ⟨w.heap.size, 0, none⟩)), .iface 112 (.pointer (some ⟨w.heap.size + 1, 0, none⟩))] (n := w.heap.size + 1 + 1) (by simp))
  have HUN := Lib.hid (unpack_two name u0 u1 (.int .i64 0) .nilIface s0 k A ca (w.heap.size + 1 + 1) 2 w.heap.size (w.heap.size + 1) _ (h0.below HAL.out) hk h1.iface ((HAL.out.cell (p := ⟨A, 0, none⟩) hAl).trans hA0) ((HAL.out.cell (p := ⟨A, 1, none⟩) hAl).trans hA1) ((HBQ.out.cell 0).trans rfl) ((HBQ.out.cell 1).trans rfl)
    (((Blk.new w 3 #[.int .i64 0]).alloc _).alloc _) ((Blk.new_at (w.alloc (.cells #[.int .i64 0] 3)) 49 #[.nilIface] (n := w.heap.size + 1) (by simp)).alloc _) (by omega) (by omega) (by omega))
  obtain ⟨tv, zv, rfl⟩ := h1.iface
  clear hB hL hR h0 h1 hA0 hA1 hk hname hn
  go_enter Tryz.func36, Tryz.ntmps36
  go_wp2_with fail
  refine (recv_of b name fn _ _ HB.out).mono ?_
  rintro e w' ⟨rfl, rfl⟩
  go_wp2_with fail
  refine (HNAME.out _ HA2.out).mono ?_
  rintro e w' ⟨rfl, rfl⟩
  go_wp2_with fail
  refine HUN.out.mono ?_
  rintro e w3 ⟨rfl, hg3, hx3, ho3⟩
  have HB3 := Lib.hid (HAL.out.trans (ho3.to_below HAL.out.size (fun q _ e => by rcases e with e | e <;> omega)))
  have HL3 := Lib.hid (HL.out.below HB3.out hLl)
  have HR3 := Lib.hid (HR.out.below HB3.out)
  have H13 := Lib.hid (H1.out.below HB3.out)
  have HG3 := Lib.hid hg3
  have HX3 := Lib.hid hx3
  clear hg3 hx3 ho3
  go_wp2_with fail
  refine (check_mut L _ _ _ HL3.out).mono ?_
  rintro e w' ⟨rfl, rfl⟩
  have HLEN := Lib.hid (fun W (h : Below w3.heap.size w3 W) => list_len L n c a 0 W (HL3.out.below h HL3.out.lt))
  have HLQ := Lib.hid (fun q => (list_len L n c a 0 (w3.drewN q) (Blk.drewN HL3.out q)).mono fun e w' (h : e = .returned (.int .i64 (n : Int)) ∧ w3.drewN q = w') => (⟨h.1, h.2.symm⟩ : e = .returned (.int .i64 (n : Int)) ∧ w' = w3.drewN q))
  obtain ⟨i0, if0⟩ := blk_one HG3.out
  obtain ⟨x0, xf0⟩ := blk_one HX3.out
  obtain ⟨l0, l1, l2, lf0, lf1, lf2⟩ := blk_three HL3.out
  have d1 : decide (k < 0) = true := decide_eq_true (by omega)
  have hn0 := HN.out
  obtain ⟨m, hm⟩ : ∃ m : Int, k + (n : Int) = m := ⟨_, rfl⟩
  have hm0 : m < 0 := by omega
  have hwk : IntKind.i64.wrap (k + (n : Int)) = m := by rw [IntKind.wrap_i64]; omega
  have d3 : decide ((n : Int) ≤ m) = false := decide_eq_false (by omega)
  have d4 : decide (m < 0) = true := decide_eq_true hm0
  have hjn : j < n := by omega
  have HJZ := Lib.hid hjz
  clear hlt hk64 hn0 hm hpos hjz
  go_wp2_with fail
  go_region_with (go_at_call 58; refine (HLEN.out _ (Below.refl _ _).drew).mono ?_; rintro e w' ⟨rfl, rfl⟩)
  all_goals
    obtain ⟨w3b, hw3⟩ : ∃ x, x = (w3.setCell ⟨w.heap.size, 0, none⟩ (.int .i64 m)).drew := ⟨_, rfl⟩
    have ho3 : Only (· = w.heap.size) w3 w3b := hw3 ▸ ((Only.refl (· = w.heap.size) w3).setCell (p := ⟨w.heap.size, 0, none⟩) (.inl (rfl : w.heap.size = w.heap.size)) _).drew
    have HL3b : Hid (ListB w3b L (.slice a n c) 0) := Blk.only HL3.out ho3 (by omega)
    have HB3b := Lib.hid (HB3.out.trans (ho3.to_below HB3.out.size (fun q _ e => by omega)))
    have hint : ∀ g, g = w.heap.size → g < w3.heap.size → ∃ t cs, Blk w3 g t cs ∧ 138 ≠ t ∧ 194 ≠ t := by
      rintro g rfl _
      exact ⟨_, _, HG3.out, by decide, by decide⟩
    have HR3b : Hid (RowT w3b B (.slice a n c) ps) := HR3.out.apart (fun q hq e => by have := (HR.out.1.lt q hq).2; omega) hint ho3
    have H13b : Hid (TVal w3b (.iface tv zv) s1) := H13.out.apart hint ho3
    have HG3b : Hid (Blk w3b w.heap.size 3 #[.int .i64 m]) := hw3 ▸ (one_put HG3.out _).drew
    have HX3b : Hid (Blk w3b (w.heap.size + 1) 49 #[.iface tv zv]) := Blk.only HX3.out ho3 (by omega)
    have HLQb := Lib.hid (fun q => (list_len L n c a 0 (w3b.drewN q) (Blk.drewN HL3b.out q)).mono fun e w' (h : e = .returned (.int .i64 (n : Int)) ∧ w3b.drewN q = w') => (⟨h.1, h.2.symm⟩ : e = .returned (.int .i64 (n : Int)) ∧ w' = w3b.drewN q))
    rw [← hw3]
    clear hw3 ho3 hint hwk i0 if0 x0 xf0 l0 l1 l2 lf0 lf1 lf2
    obtain ⟨i0, if0⟩ := blk_one HG3b.out
    obtain ⟨x0, xf0⟩ := blk_one HX3b.out
    obtain ⟨l0, l1, l2, lf0, lf1, lf2⟩ := blk_three HL3b.out
    go_wp2_with fail
    go_quiet ((go_at_call 58; exact Calls.quiet_of_same (HLQb.out _)))
    obtain ⟨w4, hw4⟩ : ∃ x, x = w3b.drewN nq := ⟨_, rfl⟩
    have HL4 : Hid (ListB w4 L (.slice a n c) 0) := hw4 ▸ Blk.drewN HL3b.out nq
    have hb34 : Below w3b.heap.size w3b w4 := hw4 ▸ below_dn (Below.refl _ _) nq
    have HB4 := Lib.hid (HB3b.out.trans (hb34.mono HB3b.out.size))
    have HR4 := Lib.hid (HR3b.out.below hb34)
    have H14 := Lib.hid (H13b.out.below hb34)
    have HG4 := Lib.hid (HG3b.out.below hb34 HG3b.out.lt)
    have HX4 := Lib.hid (HX3b.out.below hb34 HX3b.out.lt)
    have hlt4 := HX4.out.lt
    have hlL4 : L < w4.heap.size := HL4.out.lt
    have HO4 : Hid (w4.ownsRow B 49 1 (.slice a n c) n (ps.map (·.1))) := by have := HR4.out.1; rw [← HN.out] at this; exact this
    have HLO : Hid (some L ≠ (Value.slice a n c).ownBlock) := fun e => own_ne_blk HR4.out.1 HL4.out (by decide) L e.symm rfl
    have HXO : Hid (some (w.heap.size + 1) ≠ (Value.slice a n c).ownBlock) := fun e => by have := (HR.out.1.lt (w.heap.size + 1) e.symm).2; omega
    have hBw4 : B ≤ w4.heap.size := Nat.le_trans HBW.out HB4.out.size
    obtain ⟨j0, hj0, hj1, hj2, hj3⟩ := info_parts Tryz.infoV
    have HJ := Lib.hid (And.intro hj0 (And.intro hj1 (And.intro hj2 hj3)))
    rw [← hw4]
    clear i0 if0 x0 xf0 l0 l1 l2 lf0 lf1 lf2 hb34 hw4 hj0 hj1 hj2 hj3
    obtain ⟨i0, if0⟩ := blk_one HG4.out
    obtain ⟨x0, xf0⟩ := blk_one HX4.out
    obtain ⟨l0, l1, l2, lf0, lf1, lf2⟩ := blk_three HL4.out
    go_upto_region 16 with fail
    obtain ⟨w5, hw5⟩ : ∃ x, x = w4.setCell ⟨w.heap.size, 0, none⟩ (.int .i64 0) := ⟨_, rfl⟩
    have ho5 : Only (· = w.heap.size) w4 w5 := hw5 ▸ (Only.refl (· = w.heap.size) w4).setCell (p := ⟨w.heap.size, 0, none⟩) (.inl (rfl : w.heap.size = w.heap.size)) _
    have hint : ∀ g, g = w.heap.size → g < w4.heap.size → ∃ t cs, Blk w4 g t cs ∧ 138 ≠ t ∧ 194 ≠ t := by
      rintro g rfl _
      exact ⟨_, _, HG4.out, by decide, by decide⟩
    have HL4b : Hid (ListB w5 L (.slice a n c) 0) := Blk.only HL4.out ho5 (by omega)
    have HB4b := Lib.hid (HB4.out.trans (ho5.to_below HB4.out.size (fun q _ e => by omega)))
    have HR4b : Hid (RowT w5 B (.slice a n c) ps) := HR4.out.apart (fun q hq e => by have := (HR.out.1.lt q hq).2; omega) hint ho5
    have H14b : Hid (TVal w5 (.iface tv zv) s1) := H14.out.apart hint ho5
    have HG4b : Hid (Blk w5 w.heap.size 3 #[.int .i64 (j : Int)]) := by rw [HJZ.out]; exact hw5 ▸ one_put HG4.out _
    have HX4b : Hid (Blk w5 (w.heap.size + 1) 49 #[.iface tv zv]) := Blk.only HX4.out ho5 (by omega)
    have HO4b : Hid (w5.ownsRow B 49 1 (.slice a n c) n (ps.map (·.1))) := by have := HR4b.out.1; rw [← HN.out] at this; exact this
    have hbb : w4.heap.size ≤ w5.heap.size := ho5.size
    rw [← hw5]
    clear hw5 ho5 hint i0 if0 x0 xf0 l0 l1 l2 lf0 lf1 lf2
    obtain ⟨i0, if0⟩ := blk_one HG4b.out
    obtain ⟨x0, xf0⟩ := blk_one HX4b.out
    obtain ⟨l0, l1, l2, lf0, lf1, lf2⟩ := blk_three HL4b.out
    have hlt5 := HX4b.out.lt
    have hlL5 : L < w5.heap.size := HL4b.out.lt
    have hBw5 : B ≤ w5.heap.size := by omega
    have HGO : Hid (some w.heap.size ≠ (Value.slice a n c).ownBlock) := fun e => by have := (HR.out.1.lt w.heap.size e.symm).2; omega
    have HRL := Lib.hid (fun q (e : (Value.slice a n c).ownBlock = some q) => (HR.out.1.lt q e).2)
    have hjs : j < n := by omega
    go_wp2_with (at_builtin; refine wpList_append_lies _ (by rfl) _ _ _ (by rfl) B 49 j0 _ 1 16 Tryz.underlying45 HJ.out.1 HJ.out.2.1 HJ.out.2.2.1 HJ.out.2.2.2 rfl (by omega) (.slice a n c) n (ps.map (·.1)) (by rfl) (HO4b.out.alloc _) ⟨w5.heap.size, 0, none⟩ 1 1 [.nilIface] (by rfl) (by rfl) (World.news_of_block (cs := #[.nilIface]) (t := 49) (fr := (0, 0)) (heap_alloc_new w5 _)) (by simp [Value.oneCell']) (by omega) (by unfold maxLen; omega) (by omega) (by simp; omega) (w5.heap.size + 1) (by simp) ?_; intro gg cap w5q hown5 hgrow hat hlt; have l5 : w5q.cell? ⟨L, 0, none⟩ = some (.slice a n c) := (hgrow.cell_far ⟨L, 0, none⟩ (by simp; omega) HLO.out).trans ((Blk.alloc HL4b.out _).cell 0); have lf5 : w5q.frozen? ⟨L, 0, none⟩ = false := (hgrow.frozen_far ⟨L, 0, none⟩ (by simp; omega) HLO.out).trans ((Blk.alloc HL4b.out _).frozen 0))
    obtain ⟨w6, hw6⟩ : ∃ x, x = w5q.setCell ⟨L, 0, none⟩ (.slice (some ⟨gg, 0, none⟩) (n + 1) cap) := ⟨_, rfl⟩
    have hL5 : Blk w5q L 90 #[.slice a n c, .bool false, .int .u32 0] := Blk.grown (Blk.alloc HL4b.out _) hgrow HLO.out
    have hG5 := Blk.grown (Blk.alloc HG4b.out (.cells #[.nilIface] 49)) hgrow HGO.out
    have hX5 := Blk.grown (Blk.alloc HX4b.out (.cells #[.nilIface] 49)) hgrow HXO.out
    have ho56 : Only (· = L) w5q w6 := hw6 ▸ (Only.refl (· = L) w5q).setCell (p := ⟨L, 0, none⟩) (.inl (rfl : L = L)) _
    have hL6 : Blk w6 L 90 #[.slice (some ⟨gg, 0, none⟩) (n + 1) cap, .bool false, .int .u32 0] := hw6 ▸ (by have := Blk.put hL5 0 (.slice (some ⟨gg, 0, none⟩) (n + 1) cap); simpa using this)
    have hG6 := hG5.only ho56 (by omega)
    have hX6 := hX5.only ho56 (by omega)
    have hggL : gg ≠ L := own_ne_blk hown5 hL5 (by decide) gg rfl
    have hgg2 : gg ≠ w.heap.size ∧ gg ≠ w.heap.size + 1 := by
      rcases hat with h | h
      · have := HRL.out gg h; omega
      · omega
    have hown6 : w6.ownsRow B 49 1 (.slice (some ⟨gg, 0, none⟩) (n + 1) cap) (n + 1) (ps.map (·.1) ++ [.nilIface]) := own_only hown5 ho56 (fun q hq e => by injection hq with hq; exact hggL (by rw [← e, ← hq]))
    have hcap : n + 1 ≤ cap := by
      rcases hown6.2 with ⟨h, _⟩ | ⟨q, cp, cur, h, _, _, h1, _⟩
      · simp at h
      · injection h with _ _ h; rw [h]; exact h1
    have hba : Below w5.heap.size w5 (w5.alloc (.cells #[.nilIface] 49)) := (Below.refl _ _).alloc (Nat.le_refl _) _
    have htv6 : ∀ q ∈ insL ps j (Value.iface tv zv, s1), TVal w6 q.1 q.2 := fun q hq => by
      have h4 : TVal w5 q.1 q.2 := by
        unfold insL at hq
        rcases List.mem_append.1 hq with hq | hq
        · exact HR4b.out.2 q (List.mem_of_mem_take hq)
        · rcases List.mem_cons.1 hq with rfl | hq
          · exact H14b.out
          · exact HR4b.out.2 q (List.mem_of_mem_drop hq)
      exact ((h4.below hba).grown (own_below HO4b.out hba) (by decide) (by decide) hgrow).apart (fun g e _ => ⟨_, _, by subst e; exact hL5, by decide, by decide⟩) ho56
    have hb6 : Below B w w6 := ((HB4b.out.mono HBW.out).trans ((hba.mono hBw5).grown hgrow (Nat.le_trans hBw5 hba.size) fun q hq => ((own_below HO4b.out hba).lt q hq).1)).trans (ho56.to_below (by have := hgrow.size; simp at this; omega) (fun q _ e => by omega))
    have HL6 := Lib.hid hL6
    have HG6 := Lib.hid hG6
    have HX6 := Lib.hid hX6
    have HOWN6 := Lib.hid hown6
    have HTV6 := Lib.hid htv6
    have HB6 := Lib.hid hb6
    have hlL6 := hL6.lt
    have hlg6 := hown6.lt gg rfl
    have hs1 : ∀ W : World, (Instr.slice 45 (.slice (some ⟨gg, 0, none⟩) (n + 1) cap) (some (.int .i64 ((j : Int) + 1))) none none).run Tryz.prog W = .ok (.slice (some ⟨gg, j + 1, none⟩) (n - j) (cap - (j + 1))) W := fun W => by
      have := row_from gg (n + 1) cap (j + 1) (by omega) hcap W
      rwa [show n + 1 - (j + 1) = n - j by omega, show ((j + 1 : Nat) : Int) = (j : Int) + 1 by omega] at this
    have hs2 : ∀ W : World, (Instr.slice 45 (.slice (some ⟨gg, 0, none⟩) (n + 1) cap) (some (.int .i64 (j : Int))) none none).run Tryz.prog W = .ok (.slice (some ⟨gg, j, none⟩) (n + 1 - j) (cap - j)) W := fun W => row_from gg (n + 1) cap j (by omega) hcap W
    rw [← hw6]
    clear hL5 hG5 hX5 ho56 hL6 hG6 hX6 hown5 hown6 hgrow hat hlt htv6 hb6 hba l5 lf5 hw6 i0 if0 x0 xf0 l0 l1 l2 lf0 lf1 lf2
    obtain ⟨i0, if0⟩ := blk_one HG6.out
    obtain ⟨x0, xf0⟩ := blk_one HX6.out
    obtain ⟨l0, l1, l2, lf0, lf1, lf2⟩ := blk_three HL6.out
    have hwj : IntKind.i64.wrap ((j : Int) + 1) = (j : Int) + 1 := by rw [IntKind.wrap_i64]; omega
    go_wp2_with fail
    go_still_tail 13, (by kernel_rfl)
    clear hwj hs1 hs2
    have hvl : (ps.map (·.1) ++ [Value.nilIface]).length = n + 1 := by simp [HN.out]
    have hone : ∀ x ∈ ps.map (·.1) ++ [Value.nilIface], x.oneCell' = true := by
      intro x hx
      rcases List.mem_append.1 hx with hx | hx
      · obtain ⟨q, hq, rfl⟩ := List.mem_map.1 hx
        obtain ⟨t, y, hty⟩ := (HR.out.2 q hq).iface
        rw [hty]; rfl
      · simp at hx; subst hx; rfl
    refine wpList_copy_up rfl (.tmp 73) (.tmp 79) rfl B gg n cap j _ _ _ hvl hjs rfl rfl HOWN6.out.drew hone ?_
    intro w7 hown7 ho7
    have hL7 := Blk.only (Blk.drew HL6.out) ho7 (fun e => hggL e.symm)
    have hG7 := Blk.only (Blk.drew HG6.out) ho7 (fun e => hgg2.1 e.symm)
    have hX7 := Blk.only (Blk.drew HX6.out) ho7 (fun e => hgg2.2 e.symm)
    have hcj : ∃ u, w7.cell? ⟨gg, j, none⟩ = some u := by
      have hl7 : j < (((ps.map (·.1) ++ [Value.nilIface]).take (j + 1)) ++ ((ps.map (·.1) ++ [Value.nilIface]).drop j).take (n - j)).length := by
        rw [List.length_append, List.length_take, hvl]; omega
      have := hown7.cells (g := gg) rfl j _ (List.getElem?_eq_getElem hl7)
      rw [Addr.add_lit] at this
      exact ⟨_, by simpa using this⟩
    obtain ⟨u7, hu7⟩ := hcj
    have hf7 : w7.frozen? ⟨gg, j, none⟩ = false := World.ownsRow.frozenAt hown7 j
    have HF : Hid (∀ w8, w8 = w7.drew.setCell ⟨gg, j, none⟩ (.iface tv zv) → InsPost L B ps (.iface tv zv, s1) j w (.returned (.tuple #[.iface 91 (.int .u8 0), .nilIface])) w8) := by
      rintro w8 rfl
      have hst := (hown7.drew.stored j (Value.iface tv zv)).1
      have ho8 : Only (· = gg) w6 (w7.drew.setCell ⟨gg, j, none⟩ (.iface tv zv)) := (((Only.refl (· = gg) w6).drew).trans (ho7.mono (fun q _ e => e))).drew.setCell (p := ⟨gg, j, none⟩) (.inl (rfl : gg = gg)) _
      have hgb : ∀ g, g = gg → ∃ t cs, Blk w6 g t cs ∧ 138 ≠ t ∧ 194 ≠ t := by
        obtain ⟨cs, hb⟩ := Blk.of_own (g := gg) (n := 0) (c := 0) HOWN6.out rfl
        rintro g rfl
        exact ⟨_, _, hb, by decide, by decide⟩
      refine ⟨rfl, _, Blk.only HL6.out ho8 (fun e => hggL e.symm), ⟨?_, fun q hq => (HTV6.out q hq).apart (fun g e _ => hgb g e) ho8⟩, HB6.out.trans (ho8.to_below (by have := hlg6.1; have := hlg6.2; omega) (fun q _ e => by have := hlg6.1; omega))⟩
      · have e1 : (insL ps j (Value.iface tv zv, s1)).map (·.1) = ((ps.map (·.1) ++ [Value.nilIface]).take (j + 1) ++ ((ps.map (·.1) ++ [Value.nilIface]).drop j).take (n - j)).set j (Value.iface tv zv) := by
          have := ins_list (ps.map (·.1)) Value.nilIface (Value.iface tv zv) j (by simp [← HN.out]; exact hjs)
          rw [List.length_map, ← HN.out] at this
          rw [this]
          simp [insL]
        have e2 : (insL ps j (Value.iface tv zv, s1)).length = n + 1 := by simp [insL, ← HN.out]; omega
        rw [e1, e2]
        exact hst
    have HL7 := Lib.hid hL7
    clear hown7 ho7 hvl hone HB6 HTV6 i0 if0 x0 xf0 l0 l1 l2 lf0 lf1 lf2
    obtain ⟨i0, if0⟩ := blk_one hG7
    obtain ⟨x0, xf0⟩ := blk_one hX7
    obtain ⟨l0, l1, l2, lf0, lf1, lf2⟩ := blk_three HL7.out
    clear hL7 hG7 hX7
    go_wp2_with fail
    have hj0 : (0 : Int) ≤ (j : Int) := by omega
    have hj1 : (j : Int) < ((n + 1 : Nat) : Int) := by omega
    have hj2 : (j : Int) < (n : Int) + 1 := by omega
    have hj3 : j < n + 1 := by omega
    go_still_tail 7, (by kernel_rfl)
    go_wp2
    go_ret2
    exact HF.out _ rfl
set_option maxRecDepth 100000 in
set_option maxHeartbeats 4000000 in
theorem ins_none (w : World) (L b A ca B : Nat) (v u0 u1 : Value) (s0 s1 : Sx) (k : Int) (ps : List (Value × Sx)) (name : ByteArray) (fn : Value) (hB : BuiltinAt w b name fn (.iface 42 (.pointer (some ⟨L, 0, none⟩)))) (hL : ListB w L v 0) (hR : RowT w B v ps) (hl : ps.length ≤ 1000)
    (h0 : TVal w u0 s0) (h1 : TVal w u1 s1) (hA0 : w.cell? ⟨A, 0, none⟩ = some u0) (hA1 : w.cell? ⟨A, 1, none⟩ = some u1) (hBL : B ≤ L) (hk : idxX s0 = some k) (hk64 : -9223372036854775808 ≤ k) (hlt : k + (ps.length : Int) < 0) (hpos : ps.length = 0) (j : Nat) (hjz : j = 0) :
    Calls Tryz.prog 36 #[.pointer none, .pointer (some ⟨b, 0, none⟩), .slice (some ⟨A, 0, none⟩) 2 ca, .slice none 0 0] w (InsPost L B ps (u1, s1) j w) := by
  have hLl : L < w.heap.size := hL.lt
  have hAl : A < w.heap.size := World.block_lt_of_cell? w _ hA0
  obtain ⟨a, c, hv⟩ : ∃ a c, v = .slice a ps.length c := by
    rcases hR.1.2 with ⟨rfl, h0⟩ | ⟨g, cap, cur, rfl, _⟩
    · exact ⟨none, 0, by rw [h0]⟩
    · exact ⟨_, _, rfl⟩
  subst hv
  obtain ⟨n, hn⟩ : ∃ n, n = ps.length := ⟨_, rfl⟩
  rw [← hn] at hL hR hl
  have HN := Lib.hid hn
  have HBW : Hid (B ≤ w.heap.size) := by unfold Hid; omega
  have HB := Lib.hid hB
  have HL := Lib.hid hL
  have HR := Lib.hid hR
  have H1 := Lib.hid h1
  have HAL := Lib.hid ((((Below.refl w.heap.size w).alloc (Nat.le_refl _) (.cells #[.int .i64 0] 3)).alloc (by simp) (.cells #[.nilIface] 49)).alloc (by simp; omega) (.cells #[.iface 111 (.pointer (some ⟨w.heap.size, 0, none⟩)), .iface 112 (.pointer (some ⟨w.heap.size + 1, 0, none⟩))] 20))
  have hname := fun W (h : Below w.heap.size w W) => name_of b name fn _ W (hB.below h hB.lt)
  have HNAME := Lib.hid hname
  have HA2 := Lib.hid ((((Below.refl w.heap.size w).alloc (Nat.le_refl _) (.cells #[.int .i64 0] 3)).alloc (by simp) (.cells #[.nilIface] 49)))
  have HBQ := Lib.hid (Blk.new_at ((w.alloc (.cells #[.int .i64 0] 3)).alloc (.cells #[.nilIface] 49)) 20 #[.iface 111 (.pointer (some ⟨w.heap.size, 0, none⟩)), .iface 112 (.pointer (some ⟨w.heap.size + 1, 0, none⟩))] (n := w.heap.size + 1 + 1) (by simp))
  have HUN := Lib.hid (unpack_two name u0 u1 (.int .i64 0) .nilIface s0 k A ca (w.heap.size + 1 + 1) 2 w.heap.size (w.heap.size + 1) _ (h0.below HAL.out) hk h1.iface ((HAL.out.cell (p := ⟨A, 0, none⟩) hAl).trans hA0) ((HAL.out.cell (p := ⟨A, 1, none⟩) hAl).trans hA1) ((HBQ.out.cell 0).trans rfl) ((HBQ.out.cell 1).trans rfl)
    (((Blk.new w 3 #[.int .i64 0]).alloc _).alloc _) ((Blk.new_at (w.alloc (.cells #[.int .i64 0] 3)) 49 #[.nilIface] (n := w.heap.size + 1) (by simp)).alloc _) (by omega) (by omega) (by omega))
  obtain ⟨tv, zv, rfl⟩ := h1.iface
  clear hB hL hR h0 h1 hA0 hA1 hk hname hn
  go_enter Tryz.func36, Tryz.ntmps36
  go_wp2_with fail
  refine (recv_of b name fn _ _ HB.out).mono ?_
  rintro e w' ⟨rfl, rfl⟩
  go_wp2_with fail
  refine (HNAME.out _ HA2.out).mono ?_
  rintro e w' ⟨rfl, rfl⟩
  go_wp2_with fail
  refine HUN.out.mono ?_
  rintro e w3 ⟨rfl, hg3, hx3, ho3⟩
  have HB3 := Lib.hid (HAL.out.trans (ho3.to_below HAL.out.size (fun q _ e => by rcases e with e | e <;> omega)))
  have HL3 := Lib.hid (HL.out.below HB3.out hLl)
  have HR3 := Lib.hid (HR.out.below HB3.out)
  have H13 := Lib.hid (H1.out.below HB3.out)
  have HG3 := Lib.hid hg3
  have HX3 := Lib.hid hx3
  clear hg3 hx3 ho3
  go_wp2_with fail
  refine (check_mut L _ _ _ HL3.out).mono ?_
  rintro e w' ⟨rfl, rfl⟩
  have HLEN := Lib.hid (fun W (h : Below w3.heap.size w3 W) => list_len L n c a 0 W (HL3.out.below h HL3.out.lt))
  have HLQ := Lib.hid (fun q => (list_len L n c a 0 (w3.drewN q) (Blk.drewN HL3.out q)).mono fun e w' (h : e = .returned (.int .i64 (n : Int)) ∧ w3.drewN q = w') => (⟨h.1, h.2.symm⟩ : e = .returned (.int .i64 (n : Int)) ∧ w' = w3.drewN q))
  obtain ⟨i0, if0⟩ := blk_one HG3.out
  obtain ⟨x0, xf0⟩ := blk_one HX3.out
  obtain ⟨l0, l1, l2, lf0, lf1, lf2⟩ := blk_three HL3.out
  have d1 : decide (k < 0) = true := decide_eq_true (by omega)
  have hn0 := HN.out
  obtain ⟨m, hm⟩ : ∃ m : Int, k + (n : Int) = m := ⟨_, rfl⟩
  have hm0 : m < 0 := by omega
  have hwk : IntKind.i64.wrap (k + (n : Int)) = m := by rw [IntKind.wrap_i64]; omega
  have d3 : decide ((n : Int) ≤ m) = false := decide_eq_false (by omega)
  have d4 : decide (m < 0) = true := decide_eq_true hm0
  have hjn : n = j := by omega
  have HJN := Lib.hid hjn
  have HJZ := Lib.hid hjz
  have hje3 : n ≤ j := by omega
  have hje4 : j ≤ n := by omega
  clear hlt hk64 hn0 hm hpos hjz hjn
  go_wp2_with fail
  go_region_with (go_at_call 58; refine (HLEN.out _ (Below.refl _ _).drew).mono ?_; rintro e w' ⟨rfl, rfl⟩)
  all_goals
    obtain ⟨w3b, hw3⟩ : ∃ x, x = (w3.setCell ⟨w.heap.size, 0, none⟩ (.int .i64 m)).drew := ⟨_, rfl⟩
    have ho3 : Only (· = w.heap.size) w3 w3b := hw3 ▸ ((Only.refl (· = w.heap.size) w3).setCell (p := ⟨w.heap.size, 0, none⟩) (.inl (rfl : w.heap.size = w.heap.size)) _).drew
    have HL3b : Hid (ListB w3b L (.slice a n c) 0) := Blk.only HL3.out ho3 (by omega)
    have HB3b := Lib.hid (HB3.out.trans (ho3.to_below HB3.out.size (fun q _ e => by omega)))
    have hint : ∀ g, g = w.heap.size → g < w3.heap.size → ∃ t cs, Blk w3 g t cs ∧ 138 ≠ t ∧ 194 ≠ t := by
      rintro g rfl _
      exact ⟨_, _, HG3.out, by decide, by decide⟩
    have HR3b : Hid (RowT w3b B (.slice a n c) ps) := HR3.out.apart (fun q hq e => by have := (HR.out.1.lt q hq).2; omega) hint ho3
    have H13b : Hid (TVal w3b (.iface tv zv) s1) := H13.out.apart hint ho3
    have HG3b : Hid (Blk w3b w.heap.size 3 #[.int .i64 m]) := hw3 ▸ (one_put HG3.out _).drew
    have HX3b : Hid (Blk w3b (w.heap.size + 1) 49 #[.iface tv zv]) := Blk.only HX3.out ho3 (by omega)
    have HLQb := Lib.hid (fun q => (list_len L n c a 0 (w3b.drewN q) (Blk.drewN HL3b.out q)).mono fun e w' (h : e = .returned (.int .i64 (n : Int)) ∧ w3b.drewN q = w') => (⟨h.1, h.2.symm⟩ : e = .returned (.int .i64 (n : Int)) ∧ w' = w3b.drewN q))
    rw [← hw3]
    clear hw3 ho3 hint hwk i0 if0 x0 xf0 l0 l1 l2 lf0 lf1 lf2
    obtain ⟨i0, if0⟩ := blk_one HG3b.out
    obtain ⟨x0, xf0⟩ := blk_one HX3b.out
    obtain ⟨l0, l1, l2, lf0, lf1, lf2⟩ := blk_three HL3b.out
    go_wp2_with fail
    go_quiet ((go_at_call 58; exact Calls.quiet_of_same (HLQb.out _)))
    obtain ⟨w4, hw4⟩ : ∃ x, x = w3b.drewN nq := ⟨_, rfl⟩
    have HL4 : Hid (ListB w4 L (.slice a n c) 0) := hw4 ▸ Blk.drewN HL3b.out nq
    have hb34 : Below w3b.heap.size w3b w4 := hw4 ▸ below_dn (Below.refl _ _) nq
    have HB4 := Lib.hid (HB3b.out.trans (hb34.mono HB3b.out.size))
    have HR4 := Lib.hid (HR3b.out.below hb34)
    have H14 := Lib.hid (H13b.out.below hb34)
    have HG4 := Lib.hid (HG3b.out.below hb34 HG3b.out.lt)
    have HX4 := Lib.hid (HX3b.out.below hb34 HX3b.out.lt)
    have hlt4 := HX4.out.lt
    have hlL4 : L < w4.heap.size := HL4.out.lt
    have HO4 : Hid (w4.ownsRow B 49 1 (.slice a n c) n (ps.map (·.1))) := by have := HR4.out.1; rw [← HN.out] at this; exact this
    have HLO : Hid (some L ≠ (Value.slice a n c).ownBlock) := fun e => own_ne_blk HR4.out.1 HL4.out (by decide) L e.symm rfl
    have HXO : Hid (some (w.heap.size + 1) ≠ (Value.slice a n c).ownBlock) := fun e => by have := (HR.out.1.lt (w.heap.size + 1) e.symm).2; omega
    have hBw4 : B ≤ w4.heap.size := Nat.le_trans HBW.out HB4.out.size
    obtain ⟨j0, hj0, hj1, hj2, hj3⟩ := info_parts Tryz.infoV
    have HJ := Lib.hid (And.intro hj0 (And.intro hj1 (And.intro hj2 hj3)))
    rw [← hw4]
    clear i0 if0 x0 xf0 l0 l1 l2 lf0 lf1 lf2 hb34 hw4 hj0 hj1 hj2 hj3
    obtain ⟨i0, if0⟩ := blk_one HG4.out
    obtain ⟨x0, xf0⟩ := blk_one HX4.out
    obtain ⟨l0, l1, l2, lf0, lf1, lf2⟩ := blk_three HL4.out
    go_upto_region 16 with fail
    obtain ⟨w5, hw5⟩ : ∃ x, x = w4.setCell ⟨w.heap.size, 0, none⟩ (.int .i64 0) := ⟨_, rfl⟩
    have ho5 : Only (· = w.heap.size) w4 w5 := hw5 ▸ (Only.refl (· = w.heap.size) w4).setCell (p := ⟨w.heap.size, 0, none⟩) (.inl (rfl : w.heap.size = w.heap.size)) _
    have hint : ∀ g, g = w.heap.size → g < w4.heap.size → ∃ t cs, Blk w4 g t cs ∧ 138 ≠ t ∧ 194 ≠ t := by
      rintro g rfl _
      exact ⟨_, _, HG4.out, by decide, by decide⟩
    have HL4b : Hid (ListB w5 L (.slice a n c) 0) := Blk.only HL4.out ho5 (by omega)
    have HB4b := Lib.hid (HB4.out.trans (ho5.to_below HB4.out.size (fun q _ e => by omega)))
    have HR4b : Hid (RowT w5 B (.slice a n c) ps) := HR4.out.apart (fun q hq e => by have := (HR.out.1.lt q hq).2; omega) hint ho5
    have H14b : Hid (TVal w5 (.iface tv zv) s1) := H14.out.apart hint ho5
    have HG4b : Hid (Blk w5 w.heap.size 3 #[.int .i64 (j : Int)]) := by rw [HJZ.out]; exact hw5 ▸ one_put HG4.out _
    have HX4b : Hid (Blk w5 (w.heap.size + 1) 49 #[.iface tv zv]) := Blk.only HX4.out ho5 (by omega)
    have HO4b : Hid (w5.ownsRow B 49 1 (.slice a n c) n (ps.map (·.1))) := by have := HR4b.out.1; rw [← HN.out] at this; exact this
    have hbb : w4.heap.size ≤ w5.heap.size := ho5.size
    rw [← hw5]
    clear hw5 ho5 hint i0 if0 x0 xf0 l0 l1 l2 lf0 lf1 lf2
    obtain ⟨i0, if0⟩ := blk_one HG4b.out
    obtain ⟨x0, xf0⟩ := blk_one HX4b.out
    obtain ⟨l0, l1, l2, lf0, lf1, lf2⟩ := blk_three HL4b.out
    have hlt5 := HX4b.out.lt
    have hlL5 : L < w5.heap.size := HL4b.out.lt
    have hBw5 : B ≤ w5.heap.size := by omega
    have HGO : Hid (some w.heap.size ≠ (Value.slice a n c).ownBlock) := fun e => by have := (HR.out.1.lt w.heap.size e.symm).2; omega
    have HRL := Lib.hid (fun q (e : (Value.slice a n c).ownBlock = some q) => (HR.out.1.lt q e).2)
    have hje1 : j ≤ n := by omega
    have hje2 : n ≤ j := by omega
    go_wp2_with (at_builtin; refine wpList_append_lies _ (by rfl) _ _ _ (by rfl) B 49 j0 _ 1 16 Tryz.underlying45 HJ.out.1 HJ.out.2.1 HJ.out.2.2.1 HJ.out.2.2.2 rfl (by omega) (.slice a n c) n (ps.map (·.1)) (by rfl) (HO4b.out.alloc _) ⟨w5.heap.size, 0, none⟩ 1 1 [.nilIface] (by rfl) (by rfl) (World.news_of_block (cs := #[.nilIface]) (t := 49) (fr := (0, 0)) (heap_alloc_new w5 _)) (by simp [Value.oneCell']) (by omega) (by unfold maxLen; omega) (by omega) (by simp; omega) (w5.heap.size + 1) (by simp) ?_; intro gg cap w5q hown5 hgrow hat hlt; have l5 : w5q.cell? ⟨L, 0, none⟩ = some (.slice a n c) := (hgrow.cell_far ⟨L, 0, none⟩ (by simp; omega) HLO.out).trans ((Blk.alloc HL4b.out _).cell 0); have lf5 : w5q.frozen? ⟨L, 0, none⟩ = false := (hgrow.frozen_far ⟨L, 0, none⟩ (by simp; omega) HLO.out).trans ((Blk.alloc HL4b.out _).frozen 0))
    obtain ⟨w6, hw6⟩ : ∃ x, x = w5q.setCell ⟨L, 0, none⟩ (.slice (some ⟨gg, 0, none⟩) (n + 1) cap) := ⟨_, rfl⟩
    have hL5 : Blk w5q L 90 #[.slice a n c, .bool false, .int .u32 0] := Blk.grown (Blk.alloc HL4b.out _) hgrow HLO.out
    have hG5 := Blk.grown (Blk.alloc HG4b.out (.cells #[.nilIface] 49)) hgrow HGO.out
    have hX5 := Blk.grown (Blk.alloc HX4b.out (.cells #[.nilIface] 49)) hgrow HXO.out
    have ho56 : Only (· = L) w5q w6 := hw6 ▸ (Only.refl (· = L) w5q).setCell (p := ⟨L, 0, none⟩) (.inl (rfl : L = L)) _
    have hL6 : Blk w6 L 90 #[.slice (some ⟨gg, 0, none⟩) (n + 1) cap, .bool false, .int .u32 0] := hw6 ▸ (by have := Blk.put hL5 0 (.slice (some ⟨gg, 0, none⟩) (n + 1) cap); simpa using this)
    have hG6 := hG5.only ho56 (by omega)
    have hX6 := hX5.only ho56 (by omega)
    have hggL : gg ≠ L := own_ne_blk hown5 hL5 (by decide) gg rfl
    have hgg2 : gg ≠ w.heap.size ∧ gg ≠ w.heap.size + 1 := by
      rcases hat with h | h
      · have := HRL.out gg h; omega
      · omega
    have hown6 : w6.ownsRow B 49 1 (.slice (some ⟨gg, 0, none⟩) (n + 1) cap) (n + 1) (ps.map (·.1) ++ [.nilIface]) := own_only hown5 ho56 (fun q hq e => by injection hq with hq; exact hggL (by rw [← e, ← hq]))
    have hcap : n + 1 ≤ cap := by
      rcases hown6.2 with ⟨h, _⟩ | ⟨q, cp, cur, h, _, _, h1, _⟩
      · simp at h
      · injection h with _ _ h; rw [h]; exact h1
    have hba : Below w5.heap.size w5 (w5.alloc (.cells #[.nilIface] 49)) := (Below.refl _ _).alloc (Nat.le_refl _) _
    have htv6 : ∀ q ∈ insL ps j (Value.iface tv zv, s1), TVal w6 q.1 q.2 := fun q hq => by
      have h4 : TVal w5 q.1 q.2 := by
        unfold insL at hq
        rcases List.mem_append.1 hq with hq | hq
        · exact HR4b.out.2 q (List.mem_of_mem_take hq)
        · rcases List.mem_cons.1 hq with rfl | hq
          · exact H14b.out
          · exact HR4b.out.2 q (List.mem_of_mem_drop hq)
      exact ((h4.below hba).grown (own_below HO4b.out hba) (by decide) (by decide) hgrow).apart (fun g e _ => ⟨_, _, by subst e; exact hL5, by decide, by decide⟩) ho56
    have hb6 : Below B w w6 := ((HB4b.out.mono HBW.out).trans ((hba.mono hBw5).grown hgrow (Nat.le_trans hBw5 hba.size) fun q hq => ((own_below HO4b.out hba).lt q hq).1)).trans (ho56.to_below (by have := hgrow.size; simp at this; omega) (fun q _ e => by omega))
    have HL6 := Lib.hid hL6
    have HG6 := Lib.hid hG6
    have HX6 := Lib.hid hX6
    have HOWN6 := Lib.hid hown6
    have HTV6 := Lib.hid htv6
    have HB6 := Lib.hid hb6
    have hlL6 := hL6.lt
    have hlg6 := hown6.lt gg rfl
    obtain ⟨q1, e1, hs1'⟩ := row_end gg (n + 1) cap (j + 1) (by omega) hcap
    have hs1 : ∀ W : World, (Instr.slice 45 (.slice (some ⟨gg, 0, none⟩) (n + 1) cap) (some (.int .i64 ((j : Int) + 1))) none none).run Tryz.prog W = .ok (.slice q1 0 e1) W := fun W => by
      have := hs1' W
      rwa [show ((j + 1 : Nat) : Int) = (j : Int) + 1 by omega] at this
    clear hs1'
    have hs2 : ∀ W : World, (Instr.slice 45 (.slice (some ⟨gg, 0, none⟩) (n + 1) cap) (some (.int .i64 (j : Int))) none none).run Tryz.prog W = .ok (.slice (some ⟨gg, j, none⟩) (n + 1 - j) (cap - j)) W := fun W => row_from gg (n + 1) cap j (by omega) hcap W
    rw [← hw6]
    clear hL5 hG5 hX5 ho56 hL6 hG6 hX6 hown5 hown6 hgrow hat hlt htv6 hb6 hba l5 lf5 hw6 i0 if0 x0 xf0 l0 l1 l2 lf0 lf1 lf2
    obtain ⟨i0, if0⟩ := blk_one HG6.out
    obtain ⟨x0, xf0⟩ := blk_one HX6.out
    obtain ⟨l0, l1, l2, lf0, lf1, lf2⟩ := blk_three HL6.out
    have hwj : IntKind.i64.wrap ((j : Int) + 1) = (j : Int) + 1 := by rw [IntKind.wrap_i64]; omega
    go_wp2_with fail
    go_still_tail 13, (by kernel_rfl)
    clear hwj hs1 hs2
    have hvl : (ps.map (·.1) ++ [Value.nilIface]).length = n + 1 := by simp [HN.out]
    have hone : ∀ x ∈ ps.map (·.1) ++ [Value.nilIface], x.oneCell' = true := by
      intro x hx
      rcases List.mem_append.1 hx with hx | hx
      · obtain ⟨q, hq, rfl⟩ := List.mem_map.1 hx
        obtain ⟨t, y, hty⟩ := (HR.out.2 q hq).iface
        rw [hty]; rfl
      · simp at hx; subst hx; rfl
    refine wpList_copy_zero rfl (.tmp 73) (.tmp 79) rfl q1 (some ⟨gg, j, none⟩) _ _ _ rfl rfl ?_
    obtain ⟨w7, hw7⟩ : ∃ x, x = ({ w6 with drawn := w6.drawn + 1 } : World) := ⟨_, rfl⟩
    have hown7 : w7.ownsRow B 49 1 (.slice (some ⟨gg, 0, none⟩) (n + 1) cap) (n + 1) (ps.map (·.1) ++ [.nilIface]) := hw7 ▸ HOWN6.out.drew
    have ho7 : Only (· = gg) w6.drew w7 := hw7 ▸ Only.refl _ _
    rw [← hw7]
    clear hw7
    have hL7 := Blk.only (Blk.drew HL6.out) ho7 (fun e => hggL e.symm)
    have hG7 := Blk.only (Blk.drew HG6.out) ho7 (fun e => hgg2.1 e.symm)
    have hX7 := Blk.only (Blk.drew HX6.out) ho7 (fun e => hgg2.2 e.symm)
    have hcj : ∃ u, w7.cell? ⟨gg, j, none⟩ = some u := by
      have hl7 : j < (ps.map (·.1) ++ [Value.nilIface]).length := by
        rw [hvl]; omega
      have := hown7.cells (g := gg) rfl j _ (List.getElem?_eq_getElem hl7)
      rw [Addr.add_lit] at this
      exact ⟨_, by simpa using this⟩
    obtain ⟨u7, hu7⟩ := hcj
    have hf7 : w7.frozen? ⟨gg, j, none⟩ = false := World.ownsRow.frozenAt hown7 j
    have HF : Hid (∀ w8, w8 = w7.drew.setCell ⟨gg, j, none⟩ (.iface tv zv) → InsPost L B ps (.iface tv zv, s1) j w (.returned (.tuple #[.iface 91 (.int .u8 0), .nilIface])) w8) := by
      rintro w8 rfl
      have hst := (hown7.drew.stored j (Value.iface tv zv)).1
      have ho8 : Only (· = gg) w6 (w7.drew.setCell ⟨gg, j, none⟩ (.iface tv zv)) := (((Only.refl (· = gg) w6).drew).trans (ho7.mono (fun q _ e => e))).drew.setCell (p := ⟨gg, j, none⟩) (.inl (rfl : gg = gg)) _
      have hgb : ∀ g, g = gg → ∃ t cs, Blk w6 g t cs ∧ 138 ≠ t ∧ 194 ≠ t := by
        obtain ⟨cs, hb⟩ := Blk.of_own (g := gg) (n := 0) (c := 0) HOWN6.out rfl
        rintro g rfl
        exact ⟨_, _, hb, by decide, by decide⟩
      refine ⟨rfl, _, Blk.only HL6.out ho8 (fun e => hggL e.symm), ⟨?_, fun q hq => (HTV6.out q hq).apart (fun g e _ => hgb g e) ho8⟩, HB6.out.trans (ho8.to_below (by have := hlg6.1; have := hlg6.2; omega) (fun q _ e => by have := hlg6.1; omega))⟩
      · have e1 : (insL ps j (Value.iface tv zv, s1)).map (·.1) = (ps.map (·.1) ++ [Value.nilIface]).set j (Value.iface tv zv) := by
          have hjl : j = (ps.map (·.1)).length := by rw [List.length_map, ← HN.out]; omega
          rw [List.set_append_right _ _ (by omega), hjl, Nat.sub_self]
          simp [insL]
        have e2 : (insL ps j (Value.iface tv zv, s1)).length = n + 1 := by simp [insL, ← HN.out]; omega
        rw [e1, e2]
        exact hst
    have HL7 := Lib.hid hL7
    clear hown7 ho7 hvl hone HB6 HTV6 i0 if0 x0 xf0 l0 l1 l2 lf0 lf1 lf2
    obtain ⟨i0, if0⟩ := blk_one hG7
    obtain ⟨x0, xf0⟩ := blk_one hX7
    obtain ⟨l0, l1, l2, lf0, lf1, lf2⟩ := blk_three HL7.out
    clear hL7 hG7 hX7
    go_wp2_with fail
    have hj0 : (0 : Int) ≤ (j : Int) := by omega
    have hj1 : (j : Int) < ((n + 1 : Nat) : Int) := by omega
    have hj2 : (j : Int) < (n : Int) + 1 := by omega
    have hj3 : j < n + 1 := by omega
    go_still_tail 7, (by kernel_rfl)
    go_wp2
    go_ret2
    exact HF.out _ rfl
end Go.Proofs.YtmpfffcdpecadaaGreat
