/- A count handed in as a scalar, or none: the thin package's bounds. -/
import Derived.Test.YteibkaonofkcbaaGreatDoorIntVal
import Derived.Test.YteibkaonofkcbaaGreatDoorIntLen
import Derived.Test.YteibkaonofkcbaaGreatDoorImplWhole
import Derived.Test.YteibkaonofkcbaaGreatDoorUnpackSp
import Derived.Deep.LoopGhost
namespace Go.Proofs.YteibkaonofkcbaaGreatDoor
open Go.RowKit
attribute [local go_sem ↓] Go.wp_at_zero Go.wp_at_succ
/-- A value of the thin package, cell by cell. -/
def pv (k : Int) (neg : Bool) (a : Option Addr) (n c : Nat) (bits : Int) (tx : ByteArray) (ka : Option Addr) (kn kc : Nat) : Value := .agg #[.int .i64 k, .bool neg, .slice a n c, .int .u64 bits, .string tx, .slice ka kn kc]
inductive Sc where
  | none
  | int (n : Int)
  | str (t : ByteArray)
def pNone : Value := .agg #[.int .i64 0, .bool false, .slice none 0 0, .int .u64 0, .string ⟨#[]⟩, .slice none 0 0]
def pStr (t : ByteArray) : Value := .agg #[.int .i64 4, .bool false, .slice none 0 0, .int .u64 0, .string t, .slice none 0 0]
def PVal (w : World) (B : Nat) (v : Value) : Sc → Prop
  | .none => v = pNone
  | .int n => ∃ neg l, IVal w B v neg l ∧ intOf2 neg l = n
  | .str t => v = pStr t
def Sc.ok : Sc → Prop
  | .int n => -2147483648 ≤ n ∧ n ≤ 2147483647
  | _ => True
theorem PVal.below {w w' : World} {B : Nat} {v : Value} {s : Sc} (h : PVal w B v s) (hb : Below w.heap.size w w') : PVal w' B v s := by
  cases s with
  | none => exact h
  | int n => obtain ⟨neg, l, h1, h2⟩ := h; exact ⟨neg, l, h1.below hb, h2⟩
  | str t => exact h
/-- The package's value of a scalar. -/
def sv : Sc → Value
  | .none => .iface 45 (.int .u8 0)
  | .int n => .iface 107 (.agg #[.int .i64 n, .pointer none])
  | .str t => .iface 60 (.string t)
def kindOf : Sc → Int
  | .none => 0
  | .int _ => 2
  | .str _ => 4
theorem small_in {n : Int} (h : -2147483648 ≤ n ∧ n ≤ 2147483647) : smallB n = true := by
  unfold smallB
  simp
  omega
set_option maxRecDepth 100000 in
set_option maxHeartbeats 4000000 in
theorem scalar_any (B : Nat) (v : Value) (s : Sc) (w : World) (hv : PVal w B v s) (hs : s.ok) :
    Calls Tryz.prog 24 #[.int .i64 (kindOf s), v] w fun e w' => e = .returned (.tuple #[sv s, .bool true]) ∧ Below w.heap.size w w' := by
  cases s with
  | none =>
    have hv' : v = .agg #[.int .i64 0, .bool false, .slice none 0 0, .int .u64 0, .string ⟨#[]⟩, .slice none 0 0] := hv
    subst hv'
    have HB := Lib.hid ((Below.refl w.heap.size w).alloc (Nat.le_refl _) (.cells #[.int .i64 0, .bool false, .slice none 0 0, .int .u64 0, .string ⟨#[]⟩, .slice none 0 0] 28))
    unfold kindOf
    clear hv hs
    go_enter Tryz.func24, Tryz.ntmps24
    go_wp2
    go_ret2
    exact ⟨rfl, HB.out⟩
  | str t =>
    have hv' : v = .agg #[.int .i64 4, .bool false, .slice none 0 0, .int .u64 0, .string t, .slice none 0 0] := hv
    subst hv'
    have HB := Lib.hid ((Below.refl w.heap.size w).alloc (Nat.le_refl _) (.cells #[.int .i64 4, .bool false, .slice none 0 0, .int .u64 0, .string t, .slice none 0 0] 28))
    unfold kindOf
    clear hv hs
    go_enter Tryz.func24, Tryz.ntmps24
    go_wp2
    go_ret2
    exact ⟨rfl, HB.out⟩
  | int n =>
    obtain ⟨neg, l, hi, hn⟩ := hv
    have hs' : -2147483648 ≤ n ∧ n ≤ 2147483647 := hs
    obtain ⟨vs, hv, ho, hh, hng⟩ := hi
    have hsi : SInt w B (.agg #[.bool neg, vs]) neg l := ⟨vs, rfl, ho, hh, hng⟩
    have hl := intOf2_len (sint_head hsi) hn (by omega) (by omega)
    obtain ⟨g, c, hvs, _, _, _, _⟩ := ho.form
    obtain ⟨r, hr⟩ : ∃ r, r = l.length := ⟨_, rfl⟩
    rw [← hr] at hvs
    subst hvs
    subst hv
    have hb0 := (Below.refl w.heap.size w).alloc (Nat.le_refl _) (.cells #[.int .i64 2, .bool neg, .slice (some ⟨g, 0, none⟩) r c, .int .u64 0, .string ⟨#[]⟩, .slice none 0 0] 28)
    have HB := Lib.hid hb0
    have hiv : IVal w B (.agg #[.int .i64 2, .bool neg, .slice (some ⟨g, 0, none⟩) r c, .int .u64 0, .string ⟨#[]⟩, .slice none 0 0]) neg l := ⟨_, rfl, ho, hh, hng⟩
    have HW := Lib.hid (impl_whole B _ neg l _ (hiv.below hb0) (by omega))
    have HN := Lib.hid hn
    have HS := Lib.hid (small_in hs')
    unfold kindOf
    clear hs hs' ho hh hng hsi hl hr hb0 hiv hn
    go_enter Tryz.func24, Tryz.ntmps24
    go_wp2_with fail
    refine HW.out.mono ?_
    rintro e w1 ⟨v1, rfl, hsi, hb1⟩
    rw [HN.out] at hsi
    rcases hsi with ⟨_, hv1⟩ | ⟨h1, _⟩
    · subst hv1
      have HB1 := Lib.hid (HB.out.trans (hb1.mono (by simp)))
      clear hb1
      go_wp2
      go_ret2
      exact ⟨rfl, HB1.out⟩
    · exfalso
      rw [HS.out] at h1
      exact absurd h1 (by simp)
theorem Tryz.infoV : (Tryz.prog.info? 49).map (fun i => (i.zero, i.size, i.bytes)) = some (some .nilIface, 1, 16) := by kernel_rfl
theorem sv_iface (s : Sc) : ∃ t x, sv s = .iface t x := by cases s <;> exact ⟨_, _, rfl⟩
theorem sv_one (s : Sc) : (sv s).oneCell' = true := by cases s <;> rfl
theorem PVal.pv {w : World} {B : Nat} {v : Value} {s : Sc} (h : PVal w B v s) : ∃ neg a n c tx, v = pv (kindOf s) neg a n c 0 tx none 0 0 := by
  cases s with
  | none => exact ⟨false, none, 0, 0, ⟨#[]⟩, h⟩
  | str t => exact ⟨false, none, 0, 0, t, h⟩
  | int n =>
    obtain ⟨neg, l, ⟨vs, hv, ho, _, _⟩, _⟩ := h
    obtain ⟨g, c, hvs, _, _, _, _⟩ := ho.form
    exact ⟨neg, some ⟨g, 0, none⟩, l.length, c, ⟨#[]⟩, by rw [hv, hvs]; rfl⟩
/-- Values in a row: each six cells. -/
def ValsAt (w : World) (B S : Nat) (l : List Sc) : Prop := S < w.heap.size ∧ ∀ i (h : i < l.length), ∃ neg a n c tx, PVal w B (pv (kindOf (l[i]'h)) neg a n c 0 tx none 0 0) (l[i]'h) ∧
  w.cell? ⟨S, i * 6, none⟩ = some (.int .i64 (kindOf (l[i]'h))) ∧ w.cell? ⟨S, i * 6 + 1, none⟩ = some (.bool neg) ∧ w.cell? ⟨S, i * 6 + 2, none⟩ = some (.slice a n c) ∧ w.cell? ⟨S, i * 6 + 3, none⟩ = some (.int .u64 0) ∧ w.cell? ⟨S, i * 6 + 4, none⟩ = some (.string tx) ∧ w.cell? ⟨S, i * 6 + 5, none⟩ = some (.slice none 0 0)
theorem ValsAt.below {w w' : World} {B S : Nat} {l : List Sc} (h : ValsAt w B S l) (hb : Below w.heap.size w w') : ValsAt w' B S l := by
  refine ⟨Nat.lt_of_lt_of_le h.1 hb.size, fun i hi => ?_⟩
  obtain ⟨neg, a, n, c, tx, hp, c0, c1, c2, c3, c4, c5⟩ := h.2 i hi
  exact ⟨neg, a, n, c, tx, hp.below hb, (hb.cell (p := ⟨S, _, none⟩) h.1).trans c0, (hb.cell (p := ⟨S, _, none⟩) h.1).trans c1, (hb.cell (p := ⟨S, _, none⟩) h.1).trans c2, (hb.cell (p := ⟨S, _, none⟩) h.1).trans c3, (hb.cell (p := ⟨S, _, none⟩) h.1).trans c4, (hb.cell (p := ⟨S, _, none⟩) h.1).trans c5⟩
def ScalarsPost (l : List Sc) (w : World) (e : Ending) (w' : World) : Prop := ∃ v, e = .returned (.tuple #[v, .bool true]) ∧ w'.ownsRow w.heap.size 49 1 v l.length (l.map sv) ∧ Below w.heap.size w w'
set_option maxRecDepth 100000 in
set_option maxHeartbeats 4000000 in
theorem scalars_any (B S n c : Nat) (l : List Sc) (w : World) (hv : ValsAt w B S l) (hn : n = l.length) (hs : ∀ s ∈ l, s.ok) (hl : n ≤ 1000) :
    Calls Tryz.prog 18 #[.slice (some ⟨S, 0, none⟩) n c] w (ScalarsPost l w) := by
  obtain ⟨i0, hi0, hz0, hz1, hz2⟩ := info_parts Tryz.infoV
  obtain ⟨W1, hmk, hown, hg⟩ := run_make_own (P := Tryz.prog) w w.heap.size 41 49 i0 _ 1 Tryz.underlying41 hi0 hz0 hz1 .i64 .i64 n (by rw [hz2]; omega) (by unfold maxLen; omega) (Nat.le_refl _)
  have hbw : Below w.heap.size w W1 := (Below.refl _ w).grown hg (Nat.le_refl _) (by simp)
  have HV := Lib.hid hv
  have HN := Lib.hid hn
  have HS := Lib.hid hs
  have HO := Lib.hid hown
  have HBW := Lib.hid hbw
  clear hv hn hs hown hbw hg
  go_enter Tryz.func18, Tryz.ntmps18
  go_wp2_with fail
  go_loopg [2, 3, 4, 14] n (fun k r2 r3 ov jv wr => ∃ i : Nat, r2 = .slice none 0 0 ∧ r3 = .bool false ∧ jv = .int .i64 (i : Int) ∧ k + i = n ∧ Hid (wr.ownsRow w.heap.size 49 1 ov i ((l.take i).map sv)) ∧ Hid (Below w.heap.size w wr))
  case atStart => exact ⟨0, rfl, rfl, rfl, by omega, HO.out, HBW.out⟩
  case round =>
    obtain ⟨i, rfl, rfl, rfl, hk, hrow, hb⟩ := hrel
    have HK := Lib.hid hk
    clear hk
    by_cases hin : i < n
    · have hil : i < l.length := by rw [← HN.out]; exact hin
      have hd : decide ((i : Int) < (n : Int)) = true := by simp; omega
      have hd' : decide (i < n) = true := by simp; omega
      have hvb := HV.out.below (hb.out)
      obtain ⟨neg, a, m, cc, tx, hp, c0, c1, c2, c3, c4, c5⟩ := hvb.2 i hil
      have hS := hvb.1
      have hsz := hb.out.size
      have hsok := HS.out _ (List.getElem_mem hil)
      obtain ⟨s, hse⟩ : ∃ s, s = l[i]'hil := ⟨_, rfl⟩
      rw [← hse] at hp c0 hsok
      have HNX : Hid ((l.take (i + 1)).map sv = (l.take i).map sv ++ [sv s]) := by
        unfold Hid
        rw [List.take_succ_eq_append_getElem hil, List.map_append, ← hse]; rfl
      have HB0 := Lib.hid ((Below.refl wr.heap.size wr).alloc (Nat.le_refl _) (.cells #[.int .i64 (kindOf s), .bool neg, .slice a m cc, .int .u64 0, .string tx, .slice none 0 0] 28))
      have HSC := Lib.hid (scalar_any B _ s _ (hp.below HB0.out) hsok)
      obtain ⟨kd, hkd⟩ : ∃ kd, kd = kindOf s := ⟨_, rfl⟩
      unfold Go.Proofs.YteibkaonofkcbaaGreatDoor.pv at HSC
      rw [← hkd] at HSC HB0 c0
      have HROW0 := Lib.hid (own_below hrow.out HB0.out)
      obtain ⟨ut, ux, hu⟩ := sv_iface s
      rw [hu] at HSC HNX
      clear hvb hp hse hkd hu hsok
      go_wp2_with fail
      refine HSC.out.mono ?_
      rintro e w2 ⟨rfl, hb2⟩
      have HB2 := Lib.hid (hb.out.trans ((HB0.out.trans (hb2.mono HB0.out.size)).mono hsz))
      have HROW2 := Lib.hid (own_below HROW0.out hb2)
      clear hb2
      go_wp2_with (at_builtin; (refine wpList_append_one rfl (.tmp 27) (.tmp 29) 41 rfl w2 w.heap.size 49 i0 _ 16 Tryz.underlying41 hi0 hz0 hz1 hz2 rfl _ i ((l.take i).map sv) HROW2.out rfl (.iface ut ux) rfl rfl rfl (by unfold maxLen; omega) (by omega) HB2.out.size ?_; intro v6 w6 hown6 hb6 hg6))
      have HR6 : Hid (w6.ownsRow w.heap.size 49 1 v6 (i + 1) ((l.take (i + 1)).map sv)) := by unfold Hid; rw [HNX.out]; exact hown6
      have HB6 := Lib.hid (HB2.out.trans hb6)
      clear hown6 hb6 hg6
      go_roundg (n - (i + 1))
      case measure => have := HK.out; omega
      case rel => exact ⟨i + 1, rfl, rfl, by go_num, by have := HK.out; omega, HR6.out, HB6.out⟩
    · obtain rfl : i = n := by have := HK.out; omega
      have HR := Lib.hid hrow.out
      have HB9 := Lib.hid hb.out
      clear hrow hb
      go_wp2
      go_ret2
      refine ⟨_, rfl, ?_, HB9.out⟩
      have h := HR.out
      rw [HN.out, List.take_length] at h
      exact h
theorem PVal.base {w : World} {B C : Nat} {v : Value} {s : Sc} (h : PVal w B v s) (hC : C ≤ B) : PVal w C v s := by
  cases s with
  | none => exact h
  | int n => obtain ⟨neg, l, h1, h2⟩ := h; exact ⟨neg, l, h1.base hC, h2⟩
  | str t => exact h
theorem own_row {w : World} {B n : Nat} {e : TypeId} {v : Value} {xs : List Value} (h : w.ownsRow B e 1 v (n + 1) xs) : ∃ g c, v = .slice (some ⟨g, 0, none⟩) (n + 1) c ∧ B ≤ g ∧ g < w.heap.size ∧ ∀ k u, xs[k]? = some u → w.cell? ⟨g, k, none⟩ = some u := by
  rcases h.2 with ⟨_, h0⟩ | ⟨g, cap, cur, rfl, hb, hh, _⟩
  · exact absurd h0 (by omega)
  · refine ⟨g, cap, rfl, hb, (Array.getElem?_eq_some_iff.1 hh).1, fun k u hk => ?_⟩
    have := h.cells (g := g) rfl k u hk
    rw [Addr.add_lit] at this
    simpa using this
/-- A count that is handed in, or none. -/
def CntV (w : World) (B : Nat) (v : Value) (c : Option Int) : Prop := (c = none ∧ v = .slice none 0 0) ∨ ∃ n S cap, c = some n ∧ v = .slice (some ⟨S, 0, none⟩) 1 cap ∧ ValsAt w B S [.int n]
theorem CntV.below {w w' : World} {B : Nat} {v : Value} {c : Option Int} (h : CntV w B v c) (hb : Below w.heap.size w w') : CntV w' B v c := by
  rcases h with h | ⟨n, S, cap, h1, h2, h3⟩
  · exact .inl h
  · exact .inr ⟨n, S, cap, h1, h2, h3.below hb⟩
def BPost (c : Option Int) (w : World) (e : Ending) (w' : World) : Prop := ∃ g m cc, e = .returned (.tuple #[.slice (some ⟨g, 0, none⟩) m cc, .bool true]) ∧ m + 1 = cntPN c ∧ (∀ n, c = some n → w'.cell? ⟨g, 0, none⟩ = some (.iface 107 (.agg #[.int .i64 n, .pointer none]))) ∧ g < w'.heap.size ∧ Below w.heap.size w w'
set_option maxRecDepth 100000 in
set_option maxHeartbeats 4000000 in
theorem scalars_nil (w : World) :
    Calls Tryz.prog 18 #[.slice none 0 0] w fun e w' => ∃ g cc, e = .returned (.tuple #[.slice (some ⟨g, 0, none⟩) 0 cc, .bool true]) ∧ g < w'.heap.size ∧ Below w.heap.size w w' := by
  obtain ⟨i0, hi0, hz0, hz1, hz2⟩ := info_parts Tryz.infoV
  obtain ⟨W1, hmk, hown, hg⟩ := run_make_own (P := Tryz.prog) w w.heap.size 41 49 i0 _ 1 Tryz.underlying41 hi0 hz0 hz1 .i64 .i64 0 (by omega) (by unfold maxLen; omega) (Nat.le_refl _)
  have hmk0 : (Instr.makeSlice 41 (.int .i64 0) (.int .i64 0)).run Tryz.prog w = .ok (.slice (some ⟨w.heap.size, 0, none⟩) 0 0) W1 := hmk
  have hlt : w.heap.size < W1.heap.size := by
    rcases hown.2 with ⟨h, _⟩ | ⟨g, cap, cur, h, _, hh, _⟩
    · simp at h
    · injection h with h1 h2 h3
      injection h1 with h1
      injection h1 with h1
      subst h1
      exact (Array.getElem?_eq_some_iff.1 hh).1
  have HB := Lib.hid ((Below.refl w.heap.size w).grown hg (Nat.le_refl _) (by simp))
  clear hown hg
  go_enter Tryz.func18, Tryz.ntmps18
  go_wp2_with fail
  refine wp_loop_rounds 1 ?_
  rw [rounds_succ]
  go_wp2
  go_ret2
  exact ⟨_, _, rfl, hlt, HB.out⟩
theorem scalars_cnt (B : Nat) (v : Value) (c : Option Int) (w : World) (hv : CntV w B v c) (hc : ∀ n, c = some n → -2147483648 ≤ n ∧ n ≤ 2147483647) :
    Calls Tryz.prog 18 #[v] w (BPost c w) := by
  rcases hv with ⟨rfl, rfl⟩ | ⟨n, S, cap, rfl, rfl, hv⟩
  · refine (scalars_nil w).mono ?_
    rintro e w' ⟨g, cc, rfl, hg, hb⟩
    exact ⟨g, 0, cc, rfl, rfl, fun n hn => by simp at hn, hg, hb⟩
  · refine (scalars_any B S 1 cap [.int n] w hv rfl (by intro s hs; simp at hs; subst hs; exact hc n rfl) (by omega)).mono ?_
    rintro e w' ⟨v, rfl, hown, hb⟩
    obtain ⟨g, cc, rfl, _, hg, hcell⟩ := own_row hown
    exact ⟨g, 1, cc, rfl, rfl, fun m hm => by injection hm with hm; subst hm; exact hcell 0 _ rfl, hg, hb⟩
theorem bounds_cnt (B : Nat) (v : Value) (c : Option Int) (w : World) (hv : CntV w B v c) (hc : ∀ n, c = some n → -2147483648 ≤ n ∧ n ≤ 2147483647) :
    Calls Tryz.prog 11 #[v] w (BPost c w) := by
  have HS := Lib.hid (scalars_cnt B v c w hv hc)
  clear hv hc
  go_enter Tryz.func11, Tryz.ntmps11
  go_wp2_with fail
  refine HS.out.mono ?_
  rintro e w1 ⟨g, m, cc, rfl, hm, hcell, hg, hb⟩
  have HC := Lib.hid hcell
  have HB := Lib.hid hb
  have HM := Lib.hid hm
  clear hcell hb hm
  go_wp2
  go_ret2
  exact ⟨_, _, _, rfl, HM.out, HC.out, hg, HB.out⟩
end Go.Proofs.YteibkaonofkcbaaGreatDoor
