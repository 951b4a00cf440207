/- The methods split and rsplit. -/
import Derived.Test.YteibkaonofkcbaaGreatDoorUnpackSp
import Derived.Test.YteibkaonofkcbaaGreatDoorBuiltinB
import Derived.Test.YteibkaonofkcbaaGreatDoorSplitN
import Derived.Test.YteibkaonofkcbaaGreatDoorRowEx
import Derived.Test.YteibkaonofkcbaaGreatDoorOver
import Derived.StillTailTactics
import Derived.Test.YteibkaonofkcbaaGreatDoorOfTexts
import Derived.Deep.DeepCutAuto
namespace Go.Proofs.YteibkaonofkcbaaGreatDoor
open Go.RowKit
attribute [local go_sem ↓] Go.wp_at_zero Go.wp_at_succ
def SplitArgs (w : World) (A : Nat) (p : ByteArray) (c : Option Int) : Prop :=
  A < w.heap.size ∧ w.cell? ⟨A, 0, none⟩ = some (.iface 60 (.string p)) ∧ (∀ n, c = some n → w.cell? ⟨A, 1, none⟩ = some (.iface 107 (.agg #[.int .i64 n, .pointer none])))
theorem SplitArgs.below {w w' : World} {A : Nat} {p : ByteArray} {c : Option Int} (h : SplitArgs w A p c) (hb : Below w.heap.size w w') : SplitArgs w' A p c :=
  ⟨Nat.lt_of_lt_of_le h.1 hb.size, (hb.cell (p := ⟨A, 0, none⟩) h.1).trans h.2.1, fun n hn => (hb.cell (p := ⟨A, 1, none⟩) h.1).trans (h.2.2 n hn)⟩
@[go_sem] theorem Tryz.eqNoneS (v : Value) (w : World) : (binOp .eql 49 (.iface 60 v) (.iface 45 (.int .u8 0))).run Tryz.prog w = .ok (.bool false) w := by kernel_rfl
theorem Tryz.infoS0 : ∃ i, Tryz.prog.info? 49 = some i ∧ i.zero = some .nilIface ∧ i.size = 1 ∧ i.bytes = 16 := Tryz.infoTV
/-- The row of texts that split has made. -/
def SplitRow (s p : ByteArray) (c : Option Int) (w wx : World) (v : Value) : Prop :=
  ∃ ts, RowT wx w.heap.size v ts ∧ joinL p.data.toList ts = s.data.toList ∧ ts ≠ [] ∧ ts.length ≤ s.size + 1001 ∧ (∀ n, c = some n → 0 ≤ n → (ts.length : Int) ≤ n + 1) ∧ Below w.heap.size w wx
theorem split_row {s p : ByteArray} {c : Option Int} {m : Nat} {w wa wx : World} {v : Value} {ts : List ByteArray} (h : RowT wx wa.heap.size v ts) (h1 : joinL p.data.toList ts = s.data.toList) (h2 : ts ≠ []) (h3 : ts.length ≤ m) (hm : m ≤ s.size + 1001) (hc : ∀ n, c = some n → 0 ≤ n → (m : Int) ≤ n + 1) (hb : Below w.heap.size w wa) (hb2 : Below wa.heap.size wa wx) : SplitRow s p c w wx v := by
  refine ⟨ts, ?_, h1, h2, by omega, fun n hn h0 => by have := hc n hn h0; omega, hb.trans (hb2.mono hb.size)⟩
  refine ⟨h.1, ?_⟩
  rcases h.2 with h0 | ⟨g, cap, cur, hv, hbb, hr⟩
  · exact .inl h0
  · exact .inr ⟨g, cap, cur, hv, Nat.le_trans hb.size hbb, hr⟩
def SplitVPost (s p : ByteArray) (c : Option Int) (w : World) (e : Ending) (w' : World) : Prop :=
  ∃ (L : Nat) (a : Option Addr) (n cc : Nat) (ts : List ByteArray), e = .returned (.tuple #[.iface 61 (.pointer (some ⟨L, 0, none⟩)), .nilIface]) ∧ ListBT w' L (.slice a n cc) ∧ ValAtT w' a ts ∧ ts.length = n ∧ n ≤ 2001 ∧ joinL p.data.toList ts = s.data.toList ∧ ts ≠ [] ∧ (∀ n, c = some n → 0 ≤ n → (ts.length : Int) ≤ n + 1) ∧ Below w.heap.size w w'
theorem new_listT (a : Option Addr) (n c : Nat) (w : World) :
    Calls Tryz.prog 38 #[.slice a n c] w fun e w' => e = .returned (.pointer (some ⟨w.heap.size, 0, none⟩)) ∧ w' = w.alloc (.cells #[.slice a n c, .bool false, .int .u32 0] 71) := by
  go_enter Tryz.func38, Tryz.ntmps38
  go_wp2
  go_ret
  exact ⟨rfl, rfl⟩
theorem one_at (w : World) (g i : Nat) (u : Value) : Only (· = g) w (w.setCell ⟨g, i, none⟩ u) := (Only.refl (fun x => x = g) w).setCell (p := ⟨g, i, none⟩) (.inl (rfl : g = g)) u
theorem Blk.of_own2 {w : World} {B size g n c : Nat} {e : TypeId} {v : Value} {m : Nat} {xs : List Value} (h : w.ownsRow B e size v m xs) (hv : v.ownBlock = some g) : ∃ cs, Blk w g e cs := by
  rcases h.2 with ⟨rfl, _⟩ | ⟨g', cap, cur, rfl, _, hh, _⟩
  · simp [Value.ownBlock] at hv
  · simp only [Value.ownBlock, Option.some.injEq] at hv
    subst hv
    exact ⟨cur, hh⟩
def FillAt (wr : World) (G n i : Nat) (ts : List ByteArray) : Prop := ∃ cs, Blk wr G 49 cs ∧ n ≤ cs.size ∧ ∀ j x, j < i → ts[j]? = some x → cs[j]? = some (txV x)
theorem FillAt.put {wr : World} {G n i : Nat} {ts : List ByteArray} (h : FillAt wr G n i ts) (hi : i < n) {t : ByteArray} (ht : ts[i]? = some t) : FillAt (wr.setCell ⟨G, i, none⟩ (.iface 60 (.string t))) G n (i + 1) ts := by
  obtain ⟨cs, h1, h2, h3⟩ := h
  refine ⟨_, h1.put i _, by simpa using h2, fun j x hj hx => ?_⟩
  by_cases e : j = i
  · subst e
    rw [ht] at hx
    injection hx with hx
    subst hx
    simp [Array.getElem?_setIfInBounds]
    exact ⟨by omega, rfl⟩
  · rw [Array.getElem?_setIfInBounds_ne (by omega)]
    exact h3 j x (by omega) hx
set_option maxRecDepth 100000 in
set_option maxHeartbeats 4000000 in
theorem string_split_l (s p name : ByteArray) (fn : Value) (b A ca : Nat) (c : Option Int) (w : World) (hs : s.size ≤ 1000) (hp : p.size ≤ 1000) (hp1 : 1 ≤ p.size) (hc : ∀ n, c = some n → -1000 ≤ n ∧ n ≤ 999)
    (hname : name = ⟨#[115, 112, 108, 105, 116]⟩ ∨ name = ⟨#[114, 115, 112, 108, 105, 116]⟩)
    (hB : BuiltinAt w b name fn (.iface 60 (.string s))) (hA : SplitArgs w A p c) :
    Calls Tryz.prog 22 #[.pointer none, .pointer (some ⟨b, 0, none⟩), .slice (some ⟨A, 0, none⟩) (cntPN c) ca, .slice none 0 0] w (SplitVPost s p c w) := by
  have hAl : A < w.heap.size := hA.1
  have hBl := hB.lt
  have HB := Lib.hid hB
  have HA := Lib.hid hA
  obtain ⟨n, hn⟩ : ∃ n, n = cntP c := ⟨_, rfl⟩
  have HN := Lib.hid hn
  have HC := Lib.hid hc
  have hb0 := emp_false (s := p) (by omega)
  have HNM := Lib.hid hname
  clear hB hA hn hc hname
  go_enter Tryz.func22, Tryz.ntmps22
  go_wp2_with fail
  refine (recv_of b _ fn _ _ HB.out).mono ?_
  rintro e w' ⟨rfl, rfl⟩
  go_wp2_with fail
  have HB0 := Lib.hid (((Below.refl w.heap.size w).alloc (Nat.le_refl _) (.cells #[.nilIface] 49)).alloc (by simp) (.cells #[.int .i64 (-1)] 3))
  refine (name_of b _ fn _ _ (HB.out.below HB0.out hBl)).mono ?_
  rintro e w' ⟨rfl, rfl⟩
  go_wp2_with fail
  have hV0 : VarsP (((w.alloc (.cells #[.nilIface] 49)).alloc (.cells #[.int .i64 (-1)] 3)).alloc (.cells #[.iface 80 (.pointer (some ⟨w.heap.size, 0, none⟩)), .iface 81 (.pointer (some ⟨w.heap.size + 1, 0, none⟩))] 20)) w.heap.size .nilIface (.int .i64 (-1)) :=
    ⟨((Blk.new w 49 #[.nilIface]).alloc _).alloc _, (Blk.new_at _ 3 #[.int .i64 (-1)] (n := w.heap.size + 1) (by simp)).alloc _⟩
  have hP := Blk.new_at ((w.alloc (.cells #[.nilIface] 49)).alloc (.cells #[.int .i64 (-1)] 3)) 20 #[.iface 80 (.pointer (some ⟨w.heap.size, 0, none⟩)), .iface 81 (.pointer (some ⟨w.heap.size + 1, 0, none⟩))] (n := w.heap.size + 1 + 1) (by simp)
  have HB1 := Lib.hid (HB0.out.alloc (by simp; omega) (.cells #[.iface 80 (.pointer (some ⟨w.heap.size, 0, none⟩)), .iface 81 (.pointer (some ⟨w.heap.size + 1, 0, none⟩))] 20))
  have hA1 := HA.out.below HB1.out
  refine (unpack_p _ p c A ca (w.heap.size + 1 + 1) 2 w.heap.size _ _ hA1.2.1 hA1.2.2 ⟨(hP.cell 0).trans rfl, (hP.cell 1).trans rfl⟩ hV0 (by unfold inP; omega) (by unfold inP; omega)).mono ?_
  rintro e w4 ⟨rfl, hv4, ho4⟩
  rw [← HN.out] at hv4
  have hb4 : Below w.heap.size w w4 := HB1.out.trans (ho4.to_below HB1.out.size (fun k _ e => by unfold inP at e; omega))
  have HB4 := Lib.hid hb4
  have HV4 := Lib.hid hv4
  obtain ⟨x0, x1⟩ := blk_one hv4.a
  obtain ⟨y0, y1⟩ := blk_one hv4.b
  clear hV0 hP hv4 hb4 ho4 hA1
  go_upto_if 41 with fail
  go_cut [14] (fun v wx => Hid (SplitRow s p c w wx v))
  case first =>
    go_wp2_with fail
    refine (as_string p _).mono ?_
    unfold AsStrPost
    rintro e w' ⟨rfl, rfl⟩
    by_cases hneg : n < 0
    · have hd : decide (n < 0) = true := decide_eq_true hneg
      go_wp2_with fail
      refine (zz_split s p _ hs hp hp1).mono ?_
      rintro e w5 ⟨v5, ts, rfl, h1, h2, h3, h4, h5⟩
      have HR := Lib.hid (split_row (c := c) h1 h2 h3 h4 (by omega) (fun m hm h0 => by have := HN.out; rw [hm] at this; unfold cntP at this; simp at this; omega) HB4.out h5)
      clear h1 h2 h3 h4 h5
      go_wp2_with fail
      go_meet
      exact HR
    · have hd : decide (n < 0) = false := decide_eq_false hneg
      have hn9 : n ≤ 999 := by
        cases c with
        | none => have := HN.out; unfold cntP at this; simp at this; omega
        | some k => have := HN.out; unfold cntP at this; simp at this; have := HC.out k rfl; omega
      rcases HNM.out with hnm | hnm
      · obtain rfl := hnm
        obtain ⟨m, hm⟩ : ∃ m : Nat, n + 1 = (m : Int) := ⟨(n + 1).toNat, by omega⟩
        have HM : Hid (n + 1 = (m : Int)) := hm
        go_wp2_with fail
        refine (name_of b _ fn _ _ (HB.out.below HB4.out hBl)).mono ?_
        rintro e w' ⟨rfl, rfl⟩
        go_wp2_with fail
        refine (zz_splitN s p m _ hs hp hp1 (by omega) (by omega)).mono ?_
        rintro e w5 ⟨v5, ts, rfl, h1, h2, h3, h4, h5⟩
        have HR := Lib.hid (split_row (c := c) h1 h2 h3 h4 (by omega) (fun k hk h0 => by have := HN.out; rw [hk] at this; unfold cntP at this; simp at this; have := HM.out; omega) HB4.out h5)
        clear h1 h2 h3 h4 h5
        go_wp2_with fail
        go_meet
        exact HR
      · obtain rfl := hnm
        go_wp2_with fail
        refine (name_of b _ fn _ _ (HB.out.below HB4.out hBl)).mono ?_
        rintro e w' ⟨rfl, rfl⟩
        go_wp2_with fail
        refine (zz_split s p _ hs hp hp1).mono ?_
        rintro e w5 ⟨v5, ts, rfl, h1, h2, h3, h4, h5⟩
        obtain ⟨av, cv, rfl⟩ := h1.form
        obtain ⟨n5, hn5⟩ : ∃ n, n = ts.length := ⟨_, rfl⟩
        have h5a := h5
        have hy : w5.cell? ⟨w.heap.size + 1, 0, none⟩ = some (.int .i64 n) := (h5.cell (p := ⟨w.heap.size + 1, 0, none⟩) (World.block_lt_of_cell? w4 _ y0)).trans y0
        obtain ⟨x, hx⟩ : ∃ x : Int, (n5 : Int) - n = x := ⟨_, rfl⟩
        have HX := Lib.hid hx
        by_cases hx0 : 0 < x
        · have hd5 : decide (0 < x) = true := decide_eq_true hx0
          obtain ⟨e, he⟩ : ∃ e : Nat, x = (e : Int) := ⟨x.toNat, by omega⟩
          subst he
          have he1 : 1 ≤ e := by omega
          have he2 : e ≤ ts.length := by omega
          obtain ⟨g, rfl⟩ : ∃ g, av = some ⟨g, 0, none⟩ := by
            rcases h1.2 with ⟨h0, _⟩ | ⟨g, cap, cur, hv, _⟩
            · exfalso; injection h0 with _ h0; omega
            · injection hv with hv; exact ⟨g, hv⟩
          have hj1 : (joinL p.data.toList ts).length = s.size := by rw [h2]; simp
          have hj2 := joinL_take p.data.toList ts e
          obtain ⟨J, hJ⟩ : ∃ J : ByteArray, J = ⟨(joinL p.data.toList (ts.take e)).toArray⟩ := ⟨_, rfl⟩
          have hlen : (ts.take e).length = e := by rw [List.length_take]; omega
          have hcut := h1.cut he2
          rw [hlen] at hcut
          have hJN := join_row w4.heap.size _ (ts.take e) p w5 hcut (by omega) (by omega)
          rw [← hJ] at hJN
          have HJN := Lib.hid hJN
          have hcap : ts.length ≤ cv := by
            have := (row_ex (J := J) h1 he1 he2).2.2.2.1
            exact this
          obtain ⟨o, k', ho, hlo⟩ := str_lo g n5 cv e (by omega) (by omega)
          have hhi := str_hi g n5 cv e (by omega)
          have hhi1 : ∀ w : World, (Instr.slice 33 (.slice (some ⟨g, 0, none⟩) n5 cv) none (some (.int .i64 1)) none).run Tryz.prog w = .ok (.slice (some ⟨g, 0, none⟩) 1 cv) w := fun w => str_hi g n5 cv 1 (by omega) w
          have HH : Hid (joinL p.data.toList (J :: ts.drop e) = s.data.toList) := by
            unfold Hid
            rw [hJ, joinL_cut _ _ _ he1 he2, h2]
          have HROW := Lib.hid h1
          have HL := Lib.hid (And.intro hn5 (And.intro h4 (And.intro he1 (And.intro he2 ho))))
          have HB5 := Lib.hid h5
          have hd0 : (0 : Int) < (n5 : Int) := by omega
          have hn5b : n5 ≤ 1001 := by omega
          have hd5n : decide (0 < e) = true := decide_eq_true (by omega)
          have hen : (e : Int) ≠ 0 := by omega
          rw [← hn5]
          clear h1 h2 h3 h4 h5 h5a hj1 hj2 hlen hcut hJN hJ he1 he2 ho hn5 hx0
          go_upto_region 25 with fail
          clear hx
          go_wp2_with fail
          refine HJN.out.mono ?_
          rintro e6 w6 ⟨rfl, hb6⟩
          obtain ⟨hn5, h4, he1, he2, ho⟩ := HL.out
          have hr6 := HROW.out.below hb6
          obtain ⟨hown6, hsrc6, hBg, _, ⟨u0, hu0⟩, hfz⟩ := row_ex J hr6 he1 he2
          have HO6 := Lib.hid hown6
          have HS6 := Lib.hid hsrc6
          have HG := Lib.hid hBg
          have HB6 := Lib.hid (HB5.out.trans (hb6.mono HB5.out.size))
          have hg6 : g < w6.heap.size := World.block_lt_of_cell? w6 _ hu0
          clear hown6 hsrc6 hBg hb6 hn5 h4 he1 he2 ho hr6
          go_wp2_with fail
          go_still_tail 5, (by kernel_rfl)
          obtain ⟨i0, hi0, hz0, hz1, hz2⟩ := Tryz.infoS
          obtain ⟨hn5, h4, he1, he2, ho⟩ := HL.out
          have hml : ((ts.drop e).map strV).length = n5 - e := by rw [List.length_map, List.length_drop, hn5]
          have hsrc : ∀ j u, ((ts.drop e).map strV)[j]? = some u → (w6.setCell ⟨g, 0, none⟩ (.string J)).drew.cell? ((⟨g, o, none⟩ : Addr).add j) = some u := fun j u hj => by
            have hlt : j < n5 - e := by rw [← hml]; exact (List.getElem?_eq_some_iff.1 hj).1
            rw [ho (by omega), Addr.add_lit]
            exact HS6.out j u hj
          refine wpList_append_own _ rfl (.tmp 94) (.tmp 97) _ rfl w4.heap.size 9 i0 _ 1 16 Tryz.underlying33 hi0 hz0 hz1 hz2 rfl (by decide) (.slice (some ⟨g, 0, none⟩) 1 cv) 1 [strV J] rfl (own_below HO6.out (Below.drew (Below.refl _ _))) ⟨g, o, none⟩ (n5 - e) k' ((ts.drop e).map strV) rfl (by rw [hml, Nat.mul_one]) hsrc ?c1 (by unfold maxLen; omega) (by omega) ?c2 ?_
          case c1 =>
            intro u hu
            obtain ⟨t, _, rfl⟩ := List.mem_map.1 hu
            rfl
          case c2 =>
            show w4.heap.size ≤ (w6.setCell ⟨g, 0, none⟩ (.string J)).heap.size
            rw [World.size_setCell]
            exact HB6.out.size
          intro v7 w7 hown7 hg7 _
          have hrow7 : RowT w7 w4.heap.size v7 (J :: ts.drop e) := by
            unfold RowT
            rw [List.length_cons, List.length_drop, ← hn5, Nat.add_comm (n5 - e) 1]
            exact hown7
          have hb7 : Below w4.heap.size w4 w7 := ((HB6.out.setCell (p := ⟨g, 0, none⟩) HG.out (.string J)).drew).grown hg7 (by
            show w4.heap.size ≤ (w6.setCell ⟨g, 0, none⟩ (.string J)).heap.size
            rw [World.size_setCell]
            exact HB6.out.size) (fun k hk => by
            simp only [Value.ownBlock, Option.some.injEq] at hk
            subst hk
            exact HG.out)
          have HR := Lib.hid (split_row (c := c) (m := 1 + (n5 - e)) hrow7 HH.out (by simp) (by simp; omega) (by omega) (fun k hk h0 => by have := HN.out; rw [hk] at this; unfold cntP at this; simp at this; have := HX.out; omega) HB4.out hb7)
          clear hown7 hg7 hrow7 hb7 hsrc hml hn5 h4 he1 he2 ho
          go_wp2_with fail
          go_meet
          exact HR
        · have hd5 : decide (0 < x) = false := decide_eq_false hx0
          have HR := Lib.hid (split_row (c := c) (m := n5) h1 h2 h3 (by omega) (by omega) (fun k hk h0 => by have := HN.out; rw [hk] at this; unfold cntP at this; simp at this; have := HX.out; omega) HB4.out h5)
          rw [← hn5] at HR ⊢
          clear h1 h2 h3 h4 h5 h5a hn5
          go_wp2_with fail
          go_meet
          exact HR
  case rest =>
    obtain ⟨ts, hrow, hj, hne, hlen, hcc, hbel⟩ := hcut.out
    obtain ⟨n5, hn5⟩ : ∃ n, n = ts.length := ⟨_, rfl⟩
    obtain ⟨a5, c5, rfl⟩ := hrow.form
    rw [← hn5] at hrow ⊢
    have HAT := Lib.hid hrow.at
    have HN5 := Lib.hid hn5
    have HBE := Lib.hid hbel
    have HCC := Lib.hid hcc
    have HJ := Lib.hid hj
    have hn2 : n5 ≤ 2001 := by omega
    obtain ⟨w5, rfl⟩ : ∃ x, x = wc := ⟨wc, rfl⟩
    obtain ⟨i0, hi0, hz0, hz1, hz2⟩ := Tryz.infoS0
    clear hrow hj hlen hcc hbel hcut x0 x1 y0 y1 hn5
    go_wp2_with (at_make; refine wpList_make_full _ rfl _ _ 41 rfl w5.heap.size 49 i0 .nilIface 1 Tryz.underlying41 hi0 hz0 hz1 _ _ _ _ n5 rfl rfl rfl rfl (by rw [hz2]; omega) (by unfold maxLen; omega) (Nat.le_refl _) ?_; intro w6 hown hg)
    obtain ⟨G, hG⟩ : ∃ G, G = w5.heap.size := ⟨_, rfl⟩
    rw [← hG] at hown ⊢
    obtain ⟨cs, hblk⟩ := Blk.of_own2 (g := G) (n := 0) (c := 0) hown rfl
    have hfill : FillAt w6 G n5 0 ts := by
      refine ⟨cs, hblk, ?_, fun j x hj => by omega⟩
      rcases Nat.lt_or_ge cs.size n5 with h | h
      · exfalso
        have h1 := hown.cells (g := G) rfl cs.size .nilIface (by
          rw [show (Value.nilIface).cells = #[.nilIface] from rfl, toList_madeCells_one, Nat.mul_one, List.getElem?_replicate, if_pos h])
        rw [Addr.add_lit, Nat.zero_add, hblk.cell] at h1
        simp at h1
      · exact h
    have HFILL := Lib.hid hfill
    have hbg : Below w5.heap.size w5 w6 := (Below.refl _ _).grown hg (Nat.le_refl _) (by simp)
    have HBG := Lib.hid hbg
    have HGW := Lib.hid hG
    have HBE6 := Lib.hid (HBE.out.trans (hbg.mono HBE.out.size))
    clear hblk hown hg hbg hfill hG
    go_wp2_with fail
    go_loopg [19, 20, 105] n5 (fun k _ _ iv wr => ∃ i : Nat, iv = .int .i64 (i : Int) ∧ k + i = n5 ∧ Hid (FillAt wr G n5 i ts) ∧ Hid (Below w5.heap.size w5 wr))
    case atStart => exact ⟨0, rfl, rfl, HFILL, HBG⟩
    case round =>
      obtain ⟨i, rfl, hk, hfl, hbr⟩ := hrel
      by_cases hin : i < n5
      · have hd : decide ((i : Int) < (n5 : Int)) = true := by simp; omega
        have hit : i < ts.length := by rw [← HN5.out]; exact hin
        obtain ⟨g, rfl, hc⟩ := HAT.out.below hbr.out i (ts[i]'hit) (List.getElem?_eq_getElem hit)
        obtain ⟨t, ht⟩ : ∃ t, t = ts[i]'hit := ⟨_, rfl⟩
        have HT : Hid (ts[i]? = some t) := by unfold Hid; rw [ht]; exact List.getElem?_eq_getElem hit
        rw [← ht] at hc
        have hi0' : (0 : Int) ≤ (i : Int) := by omega
        have hii : (i : Int) < (n5 : Int) := by omega
        obtain ⟨cs, hb, hsz, _⟩ := hfl.out
        obtain ⟨u, hu⟩ : ∃ u, cs[i]? = some u := ⟨_, Array.getElem?_eq_getElem (by omega)⟩
        have hcg : wr.cell? ⟨G, i, none⟩ = some u := (hb.cell i).trans hu
        have hfg : wr.frozen? ⟨G, i, none⟩ = false := hb.frozen i
        have HPUT := Lib.hid (hfl.out.put hin HT.out)
        have HB9 : Hid (Below w5.heap.size w5 (wr.setCell ⟨G, i, none⟩ (.iface 60 (.string t)))) := hbr.out.trans ((one_at wr G i _).to_below hbr.out.size (fun k _ e => by subst e; rw [HGW.out]; exact Nat.le_refl _))
        clear hb hsz hu ht
        go_wp2
        go_roundg (n5 - (i + 1))
        case measure => omega
        case rel => exact ⟨i + 1, by go_num, by omega, HPUT, HB9⟩
      · obtain rfl : i = n5 := by omega
        have hd : decide ((i : Int) < (i : Int)) = false := by simp
        have HF := Lib.hid hfl.out
        have HB9 := Lib.hid hbr.out
        clear hfl hbr
        go_wp2_with fail
        refine (new_listT _ _ _ _).mono ?_
        rintro e w9 ⟨rfl, rfl⟩
        go_wp2
        go_ret2
        refine ⟨wr.heap.size, some ⟨G, 0, none⟩, i, i, ts, rfl, Blk.new _ _ _, fun j x hx => ⟨G, rfl, ?_⟩, HN5.out.symm, hn2, HJ.out, hne, HCC.out, ?_⟩
        · obtain ⟨cs, hb, hsz, hx2⟩ := HF.out
          have hjl : j < ts.length := (List.getElem?_eq_some_iff.1 hx).1
          rw [(hb.alloc _).cell j]
          exact hx2 j x (by rw [HN5.out]; exact hjl) hx
        · exact (HBE.out.trans (HB9.out.mono HBE.out.size)).trans (((Below.refl _ _).alloc (Nat.le_refl _) _).mono (Nat.le_trans HBE.out.size HB9.out.size))
end Go.Proofs.YteibkaonofkcbaaGreatDoor
