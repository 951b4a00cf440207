/- A row of scalars as the package's values. -/
import Derived.Test.YthoemgnfklhgjaaGreatDoorScalar
import Derived.Deep.LoopGhost
namespace Go.Proofs.YthoemgnfklhgjaaGreatDoor
open Go.RowKit
attribute [local go_sem ↓] Go.wp_at_zero Go.wp_at_succ
theorem Tryz.infoV : (Tryz.prog.info? 50).map (fun i => (i.zero, i.size, i.bytes)) = some (some .nilIface, 1, 16) := by kernel_rfl
theorem sv_iface (s : Sc) : ∃ t x, sv s = .iface t x := by cases s <;> exact ⟨_, _, rfl⟩
theorem sv_one (s : Sc) : (sv s).oneCell' = true := by cases s <;> rfl
theorem PVal.pv {w : World} {B : Nat} {v : Value} {s : Sc} (h : PVal w B v s) : ∃ neg a n c tx, v = pv (kindOf s) neg a n c 0 tx none 0 0 := by
  cases s with
  | none => exact ⟨false, none, 0, 0, ⟨#[]⟩, h⟩
  | str t => exact ⟨false, none, 0, 0, t, h⟩
  | int n =>
    obtain ⟨neg, l, ⟨vs, hv, ho, _, _⟩, _⟩ := h
    obtain ⟨g, c, hvs, _, _, _, _⟩ := ho.form
    exact ⟨neg, some ⟨g, 0, none⟩, l.length, c, ⟨#[]⟩, by rw [hv, hvs]; rfl⟩
/-- Values in a row: each six cells. -/
def ValsAt (w : World) (B S : Nat) (l : List Sc) : Prop := S < w.heap.size ∧ ∀ i (h : i < l.length), ∃ neg a n c tx, PVal w B (pv (kindOf (l[i]'h)) neg a n c 0 tx none 0 0) (l[i]'h) ∧
  w.cell? ⟨S, i * 6, none⟩ = some (.int .i64 (kindOf (l[i]'h))) ∧ w.cell? ⟨S, i * 6 + 1, none⟩ = some (.bool neg) ∧ w.cell? ⟨S, i * 6 + 2, none⟩ = some (.slice a n c) ∧ w.cell? ⟨S, i * 6 + 3, none⟩ = some (.int .u64 0) ∧ w.cell? ⟨S, i * 6 + 4, none⟩ = some (.string tx) ∧ w.cell? ⟨S, i * 6 + 5, none⟩ = some (.slice none 0 0)
theorem ValsAt.below {w w' : World} {B S : Nat} {l : List Sc} (h : ValsAt w B S l) (hb : Below w.heap.size w w') : ValsAt w' B S l := by
  refine ⟨Nat.lt_of_lt_of_le h.1 hb.size, fun i hi => ?_⟩
  obtain ⟨neg, a, n, c, tx, hp, c0, c1, c2, c3, c4, c5⟩ := h.2 i hi
  exact ⟨neg, a, n, c, tx, hp.below hb, (hb.cell (p := ⟨S, _, none⟩) h.1).trans c0, (hb.cell (p := ⟨S, _, none⟩) h.1).trans c1, (hb.cell (p := ⟨S, _, none⟩) h.1).trans c2, (hb.cell (p := ⟨S, _, none⟩) h.1).trans c3, (hb.cell (p := ⟨S, _, none⟩) h.1).trans c4, (hb.cell (p := ⟨S, _, none⟩) h.1).trans c5⟩
def ScalarsPost (l : List Sc) (w : World) (e : Ending) (w' : World) : Prop := ∃ v, e = .returned (.tuple #[v, .bool true]) ∧ w'.ownsRow w.heap.size 50 1 v l.length (l.map sv) ∧ Below w.heap.size w w'
set_option maxRecDepth 100000 in
set_option maxHeartbeats 4000000 in
theorem scalars_any (B S n c : Nat) (l : List Sc) (w : World) (hv : ValsAt w B S l) (hn : n = l.length) (hs : ∀ s ∈ l, s.ok) (hl : n ≤ 1000) :
    Calls Tryz.prog 27 #[.slice (some ⟨S, 0, none⟩) n c] w (ScalarsPost l w) := by
  obtain ⟨i0, hi0, hz0, hz1, hz2⟩ := info_parts Tryz.infoV
  obtain ⟨W1, hmk, hown, hg⟩ := run_make_own (P := Tryz.prog) w w.heap.size 44 50 i0 _ 1 Tryz.underlying44 hi0 hz0 hz1 .i64 .i64 n (by rw [hz2]; omega) (by unfold maxLen; omega) (Nat.le_refl _)
  have hbw : Below w.heap.size w W1 := (Below.refl _ w).grown hg (Nat.le_refl _) (by simp)
  have HV := Lib.hid hv
  have HN := Lib.hid hn
  have HS := Lib.hid hs
  have HO := Lib.hid hown
  have HBW := Lib.hid hbw
  clear hv hn hs hown hbw hg
  go_enter Tryz.func27, Tryz.ntmps27
  go_wp2_with fail
  go_loopg [2, 3, 4, 14] n (fun k r2 r3 ov jv wr => ∃ i : Nat, r2 = .slice none 0 0 ∧ r3 = .bool false ∧ jv = .int .i64 (i : Int) ∧ k + i = n ∧ Hid (wr.ownsRow w.heap.size 50 1 ov i ((l.take i).map sv)) ∧ Hid (Below w.heap.size w wr))
  case atStart => exact ⟨0, rfl, rfl, rfl, by omega, HO.out, HBW.out⟩
  case round =>
    obtain ⟨i, rfl, rfl, rfl, hk, hrow, hb⟩ := hrel
    have HK := Lib.hid hk
    clear hk
    by_cases hin : i < n
    · have hil : i < l.length := by rw [← HN.out]; exact hin
      have hd : decide ((i : Int) < (n : Int)) = true := by simp; omega
      have hd' : decide (i < n) = true := by simp; omega
      have hvb := HV.out.below (hb.out)
      obtain ⟨neg, a, m, cc, tx, hp, c0, c1, c2, c3, c4, c5⟩ := hvb.2 i hil
      have hS := hvb.1
      have hsz := hb.out.size
      have hsok := HS.out _ (List.getElem_mem hil)
      obtain ⟨s, hse⟩ : ∃ s, s = l[i]'hil := ⟨_, rfl⟩
      rw [← hse] at hp c0 hsok
      have HNX : Hid ((l.take (i + 1)).map sv = (l.take i).map sv ++ [sv s]) := by
        unfold Hid
        rw [List.take_succ_eq_append_getElem hil, List.map_append, ← hse]; rfl
      have HB0 := Lib.hid ((Below.refl wr.heap.size wr).alloc (Nat.le_refl _) (.cells #[.int .i64 (kindOf s), .bool neg, .slice a m cc, .int .u64 0, .string tx, .slice none 0 0] 28))
      have HSC := Lib.hid (scalar_any B _ s _ (hp.below HB0.out) hsok)
      obtain ⟨kd, hkd⟩ : ∃ kd, kd = kindOf s := ⟨_, rfl⟩
      unfold Go.Proofs.YthoemgnfklhgjaaGreatDoor.pv at HSC
      rw [← hkd] at HSC HB0 c0
      have HROW0 := Lib.hid (own_below hrow.out HB0.out)
      obtain ⟨ut, ux, hu⟩ := sv_iface s
      rw [hu] at HSC HNX
      clear hvb hp hse hkd hu hsok
      go_wp2_with fail
      refine HSC.out.mono ?_
      rintro e w2 ⟨rfl, hb2⟩
      have HB2 := Lib.hid (hb.out.trans ((HB0.out.trans (hb2.mono HB0.out.size)).mono hsz))
      have HROW2 := Lib.hid (own_below HROW0.out hb2)
      clear hb2
      go_wp2_with (at_builtin; (refine wpList_append_one rfl (.tmp 27) (.tmp 29) 44 rfl w2 w.heap.size 50 i0 _ 16 Tryz.underlying44 hi0 hz0 hz1 hz2 rfl _ i ((l.take i).map sv) HROW2.out rfl (.iface ut ux) rfl rfl rfl (by unfold maxLen; omega) (by omega) HB2.out.size ?_; intro v6 w6 hown6 hb6 hg6))
      have HR6 : Hid (w6.ownsRow w.heap.size 50 1 v6 (i + 1) ((l.take (i + 1)).map sv)) := by unfold Hid; rw [HNX.out]; exact hown6
      have HB6 := Lib.hid (HB2.out.trans hb6)
      clear hown6 hb6 hg6
      go_roundg (n - (i + 1))
      case measure => have := HK.out; omega
      case rel => exact ⟨i + 1, rfl, rfl, by go_num, by have := HK.out; omega, HR6.out, HB6.out⟩
    · obtain rfl : i = n := by have := HK.out; omega
      have HR := Lib.hid hrow.out
      have HB9 := Lib.hid hb.out
      clear hrow hb
      go_wp2
      go_ret2
      refine ⟨_, rfl, ?_, HB9.out⟩
      have h := HR.out
      rw [HN.out, List.take_length] at h
      exact h
end Go.Proofs.YthoemgnfklhgjaaGreatDoor
