/- The law's walk: instructions in a row, and their places. -/
import Derived.Test.YtkddmiamdpbgiaaPlcPlain
import Derived.Test.YtkddmiamdpbgiaaTwoEq
import Derived.Laws.MathBits
import Derived.Deep.LoopGhost
namespace Go.Proofs.Ytkddmiamdpbgiaa
open Go.RowKit
theorem blk_two {w : World} {g : Nat} {t : TypeId} {a b : Value} (h : Blk w g t #[a, b]) :
    w.cell? ⟨g, 0, none⟩ = some a ∧ w.cell? ⟨g, 1, none⟩ = some b ∧ w.frozen? ⟨g, 0, none⟩ = false ∧ w.frozen? ⟨g, 1, none⟩ = false :=
  ⟨(h.cell 0).trans rfl, (h.cell 1).trans rfl, h.frozen 0, h.frozen 1⟩
theorem code_take_le (l : List Ins) (k : Nat) : (codeOf (l.take k)).length ≤ (codeOf l).length := by
  conv => rhs; rw [← List.take_append_drop k l, codeOf_append, List.length_append]
  omega
theorem toks_take_le (l : List Ins) (k : Nat) : (toksOf (l.take k)).length ≤ (toksOf l).length := by
  conv => rhs; rw [← List.take_append_drop k l, toksOf_append, List.length_append]
  omega
theorem flat2_ne (l : List (Int × Int)) (h : 0 < l.length) : flat2 l ≠ [] := by
  intro e
  have := (flat2_at l 0 _ (List.getElem?_eq_getElem h)).1
  rw [e] at this; simp at this
/-- An instruction as it is handed in. -/
structure Raw where
  op : Int
  arg : Nat
  line : Int
  col : Int
def Raw.ok (x : Raw) : Prop := (-9223372036854775808 ≤ x.op ∧ x.op ≤ 9223372036854775807) ∧ x.arg < 4294967296 ∧ (-2147483648 ≤ x.line ∧ x.line ≤ 2147483647) ∧ (-2147483648 ≤ x.col ∧ x.col ≤ 2147483647)
def Raw.opc (x : Raw) : Nat := 1 + (x.op % 18446744073709551616 % 67).toNat
def Raw.cook (x : Raw) : Ins := ⟨x.opc, if x.opc < 43 then 0 else x.arg % 268435456, x.line % 16384, if x.line % 16384 = 0 then 0 else x.col % 16384⟩
theorem opc_in (x : Raw) : 1 ≤ x.opc ∧ x.opc ≤ 67 := by unfold Raw.opc; omega
theorem and14 (x : Int) : bits .and .i32 x 16383 = x % 16384 := by
  have h1 : (BitVec.ofInt 32 16383).toNat = 2 ^ 14 - 1 := by decide
  have key : (BitVec.ofInt 32 x &&& BitVec.ofInt 32 16383).toNat = (x % ((2 ^ 32 : Nat) : Int)).toNat % 2 ^ 14 := by
    rw [BitVec.toNat_and, BitVec.toNat_ofInt, h1, Nat.and_two_pow_sub_one_eq_mod]
  show IntKind.i32.wrap ((BitVec.ofInt 32 x &&& BitVec.ofInt 32 16383).toNat : Nat) = x % 16384
  rw [key, IntKind.wrap_i32]
  omega
theorem op_cook (x : Raw) : wrap64 (1 + wrap64 ((IntKind.u64.wrap x.op).tmod 67)) = (x.opc : Int) := by
  have h : IntKind.u64.wrap x.op = x.op % 18446744073709551616 := by rw [IntKind.wrap_u64]
  rw [h]
  unfold Raw.opc
  have h0 : 0 ≤ x.op % 18446744073709551616 := by omega
  rw [Int.tmod_eq_emod_of_nonneg h0]
  generalize x.op % 18446744073709551616 = y at *
  unfold wrap64
  omega
theorem operand_yes (n : Int) (h : 43 ≤ n) (w : World) : Calls Try.prog 11 #[.int .i64 n] w fun e w' => e = .returned (.bool true) ∧ w = w' := by
  have hd : decide (43 ≤ n) = true := by simpa using h
  clear h
  go_enter Try.func11, Try.ntmps11
  go_wp2
  go_ret
  exact ⟨rfl, rfl⟩
theorem operand_no (n : Int) (h : n < 43) (w : World) : Calls Try.prog 11 #[.int .i64 n] w fun e w' => e = .returned (.bool false) ∧ w = w' := by
  have hd : decide (43 ≤ n) = false := by simp; omega
  clear h
  go_enter Try.func11, Try.ntmps11
  go_wp2
  go_ret
  exact ⟨rfl, rfl⟩
theorem jumps_any (n : Int) (b : Bool) (h : b = decide (43 ≤ n ∧ n ≤ 45)) (w : World) : Calls Try.prog 14 #[.int .i64 n] w fun e w' => e = .returned (.bool b) ∧ w = w' := by
  subst h
  by_cases h1 : 43 ≤ n
  · have hd : decide (43 ≤ n) = true := by simpa using h1
    by_cases h2 : n ≤ 45
    · have hd2 : decide (n ≤ 45) = true := by simpa using h2
      rw [show decide (43 ≤ n ∧ n ≤ 45) = true by simp; omega]
      clear h1 h2
      go_enter Try.func14, Try.ntmps14
      go_wp2
      go_ret
      exact ⟨rfl, rfl⟩
    · have hd2 : decide (n ≤ 45) = false := by simp; omega
      rw [show decide (43 ≤ n ∧ n ≤ 45) = false by simp; omega]
      clear h1 h2
      go_enter Try.func14, Try.ntmps14
      go_wp2
      go_ret
      exact ⟨rfl, rfl⟩
  · have hd : decide (43 ≤ n) = false := by simp; omega
    rw [show decide (43 ≤ n ∧ n ≤ 45) = false by simp; omega]
    clear h1
    go_enter Try.func14, Try.ntmps14
    go_wp2
    go_ret
    exact ⟨rfl, rfl⟩
def Ins.raws (x : Ins) : List Value := [.int .i64 (x.op : Int), .int .u32 (x.arg : Int), .int .i32 x.line, .int .i32 x.col]
def raw4 (l : List Ins) : List Value := (l.map Ins.raws).flatten
theorem raw4_more (l : List Ins) (x : Ins) : raw4 (l ++ [x]) = raw4 l ++ x.raws := by simp [raw4]
theorem raws_one (x : Ins) : ∀ u ∈ x.raws, u.oneCell' = true := by
  intro u hu
  simp [Ins.raws] at hu
  rcases hu with rfl | rfl | rfl | rfl <;> rfl
theorem raw4_at (l : List Ins) (i : Nat) (h : i < l.length) : (raw4 l)[i * 4]? = some (.int .i64 ((l[i]'h).op : Int)) ∧ (raw4 l)[i * 4 + 1]? = some (.int .u32 ((l[i]'h).arg : Int)) ∧ (raw4 l)[i * 4 + 2]? = some (.int .i32 (l[i]'h).line) ∧ (raw4 l)[i * 4 + 3]? = some (.int .i32 (l[i]'h).col) := by
  induction l generalizing i with
  | nil => simp at h
  | cons x xs ih =>
    have e : raw4 (x :: xs) = x.raws ++ raw4 xs := by simp [raw4]
    have hx : x.raws.length = 4 := rfl
    rw [e]
    cases i with
    | zero => exact ⟨rfl, rfl, rfl, rfl⟩
    | succ i =>
      have := ih i (by simpa using h)
      refine ⟨?_, ?_, ?_, ?_⟩
      · rw [List.getElem?_append_right (by rw [hx]; omega), hx]; simpa [show (i + 1) * 4 - 4 = i * 4 by omega] using this.1
      · rw [List.getElem?_append_right (by rw [hx]; omega), hx]; simpa [show (i + 1) * 4 + 1 - 4 = i * 4 + 1 by omega] using this.2.1
      · rw [List.getElem?_append_right (by rw [hx]; omega), hx]; simpa [show (i + 1) * 4 + 2 - 4 = i * 4 + 2 by omega] using this.2.2.1
      · rw [List.getElem?_append_right (by rw [hx]; omega), hx]; simpa [show (i + 1) * 4 + 3 - 4 = i * 4 + 3 by omega] using this.2.2.2
theorem srcAt_of_row {w : World} {B n : Nat} {e : TypeId} {v : Value} {l : List Ins} (h : w.ownsRow B e 4 v n (raw4 l)) (hn : n = l.length) : ∃ a c, v = .slice a n c ∧ SrcAt w a l := by
  subst hn
  rcases h.2 with ⟨rfl, h0⟩ | ⟨g, cap, cur, rfl, hb, hh, _⟩
  · exact ⟨none, 0, by rw [h0], .inl (List.eq_nil_of_length_eq_zero h0)⟩
  · refine ⟨_, cap, rfl, .inr ⟨g, rfl, (Array.getElem?_eq_some_iff.1 hh).1, fun j hj => ?_⟩⟩
    obtain ⟨f0, f1, f2, f3⟩ := raw4_at l j hj
    have hc := fun k u (hk : (raw4 l)[k]? = some u) => h.cells (g := g) (by simp [Value.ownBlock]) k u hk
    refine ⟨?_, ?_, ?_, ?_⟩
    · have := hc _ _ f0; rw [Addr.add_lit] at this; simpa using this
    · have := hc _ _ f1; rw [Addr.add_lit] at this; simpa using this
    · have := hc _ _ f2; rw [Addr.add_lit] at this; simpa using this
    · have := hc _ _ f3; rw [Addr.add_lit] at this; simpa using this
theorem SrcAt.below {w w' : World} {a : Option Addr} {l : List Ins} (h : SrcAt w a l) (hb : Below w.heap.size w w') : SrcAt w' a l := by
  rcases h with h | ⟨I, ha, hI, hc⟩
  · exact .inl h
  · refine .inr ⟨I, ha, Nat.lt_of_lt_of_le hI hb.size, fun j hj => ?_⟩
    obtain ⟨c0, c1, c2, c3⟩ := hc j hj
    exact ⟨(hb.cell (p := ⟨I, _, none⟩) hI).trans c0, (hb.cell (p := ⟨I, _, none⟩) hI).trans c1, (hb.cell (p := ⟨I, _, none⟩) hI).trans c2, (hb.cell (p := ⟨I, _, none⟩) hI).trans c3⟩
theorem own_cell {w : World} {B n size k : Nat} {e : TypeId} {a : Option Addr} {cap : Nat} {xs : List Value} {u : Value} (h : w.ownsRow B e size (.slice a n cap) n xs) (hk : xs[k]? = some u) : ∃ g, a = some ⟨g, 0, none⟩ ∧ g < w.heap.size ∧ w.cell? ⟨g, k, none⟩ = some u := by
  rcases h.2 with ⟨hv, h0⟩ | ⟨g, cap', cur, hv, hb, hh, _⟩
  · exfalso
    have h1 := h.1
    rw [h0, Nat.zero_mul] at h1
    rw [List.eq_nil_of_length_eq_zero h1] at hk
    simp at hk
  · injection hv with e1 e2 e3
    subst e1
    have := h.cells (g := g) (by simp [Value.ownBlock]) k u hk
    rw [Addr.add_lit] at this
    exact ⟨g, rfl, (Array.getElem?_eq_some_iff.1 hh).1, by simpa using this⟩
theorem own_cell_all {w : World} {B n size : Nat} {e : TypeId} {a : Option Addr} {cap : Nat} {xs : List Value} (h : w.ownsRow B e size (.slice a n cap) n xs) (hne : xs ≠ []) : ∃ g, a = some ⟨g, 0, none⟩ ∧ g < w.heap.size ∧ ∀ k u, xs[k]? = some u → w.cell? ⟨g, k, none⟩ = some u := by
  obtain ⟨x, xs', rfl⟩ := List.exists_cons_of_ne_nil hne
  obtain ⟨g, rfl, hg, _⟩ := own_cell h (k := 0) (u := x) rfl
  refine ⟨g, rfl, hg, fun k u hk => ?_⟩
  have := h.cells (g := g) (by simp [Value.ownBlock]) k u hk
  rw [Addr.add_lit] at this
  simpa using this
/-- The slice that is handed in. -/
def RawAt (w : World) (a : Option Addr) (len cap : Nat) (l : List Raw) : Prop :=
  (a = none ∧ len = 0 ∧ cap = 0 ∧ l = []) ∨ ∃ x, a = some x ∧ len ≤ cap ∧ cap ≤ maxLen ∧ l.length = len ∧ ∀ i (h : i < l.length),
    w.cell? (x.add (i * 4)) = some (.int .i64 (l[i]'h).op) ∧ w.cell? ((x.add (i * 4)).add 1) = some (.int .u32 ((l[i]'h).arg : Int)) ∧ w.cell? ((x.add (i * 4)).add 2) = some (.int .i32 (l[i]'h).line) ∧ w.cell? ((x.add (i * 4)).add 3) = some (.int .i32 (l[i]'h).col) ∧ (l[i]'h).ok
theorem Try.infoRaw : (Try.prog.info? 39).map (fun i => (i.zero, i.size, i.bytes)) = some (some (.agg #[.int .i64 0, .int .u32 0, .int .i32 0, .int .i32 0]), 4, 24) := by kernel_rfl
set_option maxRecDepth 100000 in
set_option maxHeartbeats 4000000 in
theorem placed_law (ln c : Int) (a : Option Addr) (len cap : Nat) (zs : List Raw) (w : World) (hln : 0 ≤ ln ∧ ln < 65536) (hc : 0 ≤ c ∧ c < 65536) (hz : RawAt w a len cap zs) :
    Calls Try.prog 4 #[.int .u16 ln, .int .u16 c, .slice a len cap] w fun e w' => e = .returned (.bool true) ∧ Below w.heap.size w w' := by
  obtain ⟨i0, hi0, hz0, hz1, hz2⟩ := info_parts Try.infoRaw
  have hlc : len ≤ maxLen := by
    rcases hz with ⟨_, rfl, _⟩ | ⟨x, _, h1, h2, _⟩
    · exact Nat.zero_le _
    · omega
  unfold maxLen at hlc
  have HZ := Lib.hid hz
  have HLN := Lib.hid hln
  have HCC := Lib.hid hc
  clear hz
  by_cases hbig : 2147483647 < len
  · have hd : decide ((2147483647 : Int) < (len : Int)) = true := by simp; omega
    go_enter Try.func4, Try.ntmps4
    go_wp2
    go_ret
    exact ⟨rfl, Below.refl _ _⟩
  · have hd : decide ((2147483647 : Int) < (len : Int)) = false := by simp; omega
    obtain ⟨n, hn⟩ : ∃ n, n = min len 200 := ⟨_, rfl⟩
    obtain ⟨ins, hins⟩ : ∃ ins, ins = (zs.take 200).map Raw.cook := ⟨_, rfl⟩
    have hn200 : n ≤ 200 := by omega
    have hnl : n ≤ len := by omega
    have HNN : Hid (n = len ∨ n = 200) := by unfold Hid; omega
    have HIL : Hid (ins.length = n) := by
      unfold Hid
      rw [hins, List.length_map, List.length_take, hn]
      rcases HZ.out with ⟨_, rfl, _, rfl⟩ | ⟨x, _, _, _, h4, _⟩
      · simp
      · rw [h4]; omega
    have HINS := Lib.hid hins
    clear hn hins hbig
    go_enter Try.func4, Try.ntmps4
    go_wp2_with fail
    go_loopg [7, 8] n (fun k vi iv wr => ∃ i : Nat, iv = .int .i64 (i : Int) ∧ k + i = n ∧ Hid (wr.ownsRow w.heap.size 39 4 vi i (raw4 (ins.take i))) ∧ Hid (Below w.heap.size w wr))
    case atStart => exact ⟨0, rfl, by omega, World.ownsRow_nil _ _ _ _, Below.refl _ _⟩
    case round =>
      obtain ⟨i, rfl, hk, hrow, hbw⟩ := hrel
      have HK := Lib.hid hk
      clear hk
      by_cases hin : i < n
      · have hd1 : decide ((i : Int) < (len : Int)) = true := by simp; omega
        have hd2 : decide ((i : Int) < 200) = true := by simp; omega
        have hilen : (i : Int) < (len : Int) := by omega
        rcases HZ.out with ⟨_, h0, _⟩ | ⟨x, rfl, hx1, hx2, hx3, hx4⟩
        · exfalso; omega
        · obtain ⟨r, hr⟩ : ∃ r, r = zs[i]'(by omega) := ⟨_, rfl⟩
          have hcs := hx4 i (by omega)
          rw [← hr] at hcs
          obtain ⟨c0, c1, c2, c3, hok⟩ := hcs
          have q0 := (hbw.out.cell (p := x.add (i * 4)) (World.block_lt_of_cell? w _ c0)).trans c0
          have q1 : wr.cell? ⟨(x.add (i * 4)).block, (x.add (i * 4)).off + 1, none⟩ = _ := (hbw.out.cell (p := (x.add (i * 4)).add 1) (World.block_lt_of_cell? w _ c1)).trans c1
          have q2 : wr.cell? ⟨(x.add (i * 4)).block, (x.add (i * 4)).off + 2, none⟩ = _ := (hbw.out.cell (p := (x.add (i * 4)).add 2) (World.block_lt_of_cell? w _ c2)).trans c2
          have q3 : wr.cell? ⟨(x.add (i * 4)).block, (x.add (i * 4)).off + 3, none⟩ = _ := (hbw.out.cell (p := (x.add (i * 4)).add 3) (World.block_lt_of_cell? w _ c3)).trans c3
          have HR := Lib.hid hr
          clear c0 c1 c2 c3 hx4 hr
          obtain ⟨op, hop⟩ : ∃ op, op = r.opc := ⟨_, rfl⟩
          have hopc := op_cook r
          rw [← hop] at hopc
          have hop67 : 1 ≤ op ∧ op ≤ 67 := by rw [hop]; exact opc_in r
          obtain ⟨lin, hlin⟩ : ∃ lin, lin = r.line % 16384 := ⟨_, rfl⟩
          obtain ⟨col, hcol⟩ : ∃ col, col = r.col % 16384 := ⟨_, rfl⟩
          obtain ⟨ag, hag⟩ : ∃ ag, ag = r.arg % 268435456 := ⟨_, rfl⟩
          have hl1 := and14 r.line
          have hl2 := and14 r.col
          rw [← hlin] at hl1
          rw [← hcol] at hl2
          have ha1 : (r.arg : Int) % 268435456 = (ag : Int) := by omega
          have ha2 : ((r.arg : Int)).tmod 268435456 = (ag : Int) := by rw [Int.tmod_eq_emod_of_nonneg (by omega)]; exact ha1
          have hag2 : ag < 268435456 := by omega
          have hlin2 : 0 ≤ lin ∧ lin < 16384 := by omega
          have hcol2 : 0 ≤ col ∧ col < 16384 := by omega
          have HCOOK : Hid (r.cook = ⟨op, if op < 43 then 0 else ag, lin, if lin = 0 then 0 else col⟩) := by unfold Hid Raw.cook; rw [← hop, ← hlin, ← hcol, ← hag]
          have HNX : Hid (ins.take (i + 1) = ins.take i ++ [r.cook]) := by
            unfold Hid
            have h1 : i < ins.length := by rw [HIL.out]; exact hin
            rw [List.take_succ_eq_append_getElem h1]
            congr 2
            simp only [HINS.out, List.getElem_map, List.getElem_take]
            rw [HR.out]
          have HOK := Lib.hid hok
          have hsz := hbw.out.size
          clear hop hlin hcol hag hok
          by_cases h43 : 43 ≤ op
          · have hoy := Lib.hid (operand_yes (op : Int) (by omega))
            have h43' : ¬ op < 43 := by omega
            have HB43 := Lib.hid h43'
            clear h43 h43'
            by_cases h0 : lin = 0
            · subst h0
              go_wp2_with (first | (go_at_call 11; refine (hoy.out _).mono ?_; rintro e w' ⟨rfl, rfl⟩) | (at_builtin; refine wpList_append_row_at rfl (.tmp 66) (.tmp 68) 36 rfl (wr.alloc (.cells #[.int .i64 (op : Int), .int .u32 (ag : Int), .int .i32 0, .int .i32 0] 39)) (wr.heap.size + 1) (by simp) w.heap.size 39 i0 _ 24 4 Try.underlying36 hi0 hz0 hz1 hz2 rfl (by decide) _ i (raw4 (ins.take i)) (hrow.out.alloc _) rfl (Ins.mk op ag 0 0).raws rfl (raws_one _) rfl rfl (by unfold maxLen; omega) (by omega) (by omega) ?_; intro v6 w6 hown6 hb6 hg6))
              have HR6 : Hid (w6.ownsRow w.heap.size 39 4 v6 (i + 1) (raw4 (ins.take (i + 1)))) := by
                unfold Hid
                rw [HNX.out, HCOOK.out, raw4_more, if_neg HB43.out, if_pos trivial]
                exact hown6
              have HB6 := Lib.hid ((hbw.out.alloc hsz _).trans hb6)
              clear hown6 hb6 hg6
              go_wp2
              go_roundg (n - (i + 1))
              case measure => have := HK.out; omega
              case rel => exact ⟨i + 1, by go_num, by have := HK.out; omega, HR6.out, HB6.out⟩
            · have hb0 : (lin == 0) = false := by rw [beq_eq_false_iff_ne]; exact h0
              have HL0 := Lib.hid h0
              clear h0
              go_wp2_with (first | (go_at_call 11; refine (hoy.out _).mono ?_; rintro e w' ⟨rfl, rfl⟩) | (at_builtin; refine wpList_append_row_at rfl (.tmp 66) (.tmp 68) 36 rfl (wr.alloc (.cells #[.int .i64 (op : Int), .int .u32 (ag : Int), .int .i32 lin, .int .i32 col] 39)) (wr.heap.size + 1) (by simp) w.heap.size 39 i0 _ 24 4 Try.underlying36 hi0 hz0 hz1 hz2 rfl (by decide) _ i (raw4 (ins.take i)) (hrow.out.alloc _) rfl (Ins.mk op ag lin col).raws rfl (raws_one _) rfl rfl (by unfold maxLen; omega) (by omega) (by omega) ?_; intro v6 w6 hown6 hb6 hg6))
              have HR6 : Hid (w6.ownsRow w.heap.size 39 4 v6 (i + 1) (raw4 (ins.take (i + 1)))) := by
                unfold Hid
                rw [HNX.out, HCOOK.out, raw4_more, if_neg HB43.out, if_neg HL0.out]
                exact hown6
              have HB6 := Lib.hid ((hbw.out.alloc hsz _).trans hb6)
              clear hown6 hb6 hg6
              go_wp2
              go_roundg (n - (i + 1))
              case measure => have := HK.out; omega
              case rel => exact ⟨i + 1, by go_num, by have := HK.out; omega, HR6.out, HB6.out⟩
          · have hoy := Lib.hid (operand_no (op : Int) (by omega))
            have h43' : op < 43 := by omega
            have HB43 := Lib.hid h43'
            clear h43 h43'
            by_cases h0 : lin = 0
            · subst h0
              go_wp2_with (first | (go_at_call 11; refine (hoy.out _).mono ?_; rintro e w' ⟨rfl, rfl⟩) | (at_builtin; refine wpList_append_row_at rfl (.tmp 66) (.tmp 68) 36 rfl (wr.alloc (.cells #[.int .i64 (op : Int), .int .u32 0, .int .i32 0, .int .i32 0] 39)) (wr.heap.size + 1) (by simp) w.heap.size 39 i0 _ 24 4 Try.underlying36 hi0 hz0 hz1 hz2 rfl (by decide) _ i (raw4 (ins.take i)) (hrow.out.alloc _) rfl (Ins.mk op 0 0 0).raws rfl (raws_one _) rfl rfl (by unfold maxLen; omega) (by omega) (by omega) ?_; intro v6 w6 hown6 hb6 hg6))
              have HR6 : Hid (w6.ownsRow w.heap.size 39 4 v6 (i + 1) (raw4 (ins.take (i + 1)))) := by
                unfold Hid
                rw [HNX.out, HCOOK.out, raw4_more, if_pos HB43.out, if_pos trivial]
                exact hown6
              have HB6 := Lib.hid ((hbw.out.alloc hsz _).trans hb6)
              clear hown6 hb6 hg6
              go_wp2
              go_roundg (n - (i + 1))
              case measure => have := HK.out; omega
              case rel => exact ⟨i + 1, by go_num, by have := HK.out; omega, HR6.out, HB6.out⟩
            · have hb0 : (lin == 0) = false := by rw [beq_eq_false_iff_ne]; exact h0
              have HL0 := Lib.hid h0
              clear h0
              go_wp2_with (first | (go_at_call 11; refine (hoy.out _).mono ?_; rintro e w' ⟨rfl, rfl⟩) | (at_builtin; refine wpList_append_row_at rfl (.tmp 66) (.tmp 68) 36 rfl (wr.alloc (.cells #[.int .i64 (op : Int), .int .u32 0, .int .i32 lin, .int .i32 col] 39)) (wr.heap.size + 1) (by simp) w.heap.size 39 i0 _ 24 4 Try.underlying36 hi0 hz0 hz1 hz2 rfl (by decide) _ i (raw4 (ins.take i)) (hrow.out.alloc _) rfl (Ins.mk op 0 lin col).raws rfl (raws_one _) rfl rfl (by unfold maxLen; omega) (by omega) (by omega) ?_; intro v6 w6 hown6 hb6 hg6))
              have HR6 : Hid (w6.ownsRow w.heap.size 39 4 v6 (i + 1) (raw4 (ins.take (i + 1)))) := by
                unfold Hid
                rw [HNX.out, HCOOK.out, raw4_more, if_pos HB43.out, if_neg HL0.out]
                exact hown6
              have HB6 := Lib.hid ((hbw.out.alloc hsz _).trans hb6)
              clear hown6 hb6 hg6
              go_wp2
              go_roundg (n - (i + 1))
              case measure => have := HK.out; omega
              case rel => exact ⟨i + 1, by go_num, by have := HK.out; omega, HR6.out, HB6.out⟩
      · obtain rfl : i = n := by have := HK.out; omega
        have hrow' := hrow.out
        rw [List.take_of_length_le (by rw [HIL.out]; exact Nat.le_refl _)] at hrow'
        obtain ⟨ai, ci, hvi, hsrc⟩ := srcAt_of_row hrow' HIL.out.symm
        subst hvi
        have HALL : Hid (∀ x ∈ ins, (1 ≤ x.op ∧ x.op ≤ 67) ∧ x.arg < 268435456 ∧ (x.op < 43 → x.arg = 0) ∧ (0 ≤ x.line ∧ x.line < 16384) ∧ (0 ≤ x.col ∧ x.col < 16384)) := by
          intro x hx
          rw [HINS.out, List.mem_map] at hx
          obtain ⟨r, _, rfl⟩ := hx
          have h1 := opc_in r
          unfold Raw.cook
          refine ⟨h1, ?_, fun h => by simp only at h ⊢; rw [if_pos h], by simp only; omega, ?_⟩
          · simp only; split <;> omega
          · simp only; split <;> omega
        have HCL : Hid ((codeOf ins).length ≤ 1000) := by
          have h1 := code_le ins (fun x hx => (HALL.out x hx).2.1)
          have h2 := HIL.out
          unfold Hid; omega
        have HSRC := Lib.hid hsrc
        have HBW := Lib.hid hbw.out
        have hsz := hbw.out.size
        have HROWI := Lib.hid hrow'
        have hcase : ((i : Int) < (len : Int) ∧ i = 200) ∨ ¬ ((i : Int) < (len : Int)) := by have := HNN.out; omega
        have HD : Hid (∃ b1 b2 : Bool, decide ((i : Int) < (len : Int)) = b1 ∧ decide (i < len) = b1 ∧ decide ((i : Int) < 200) = b2 ∧ (b1 = true → b2 = false)) := by
          refine ⟨_, _, rfl, by simp, rfl, fun h => ?_⟩
          rcases hcase with ⟨h1, h2⟩ | h1
          · simp; omega
          · exact absurd (by simpa using h) h1
        clear hcase hrow' hsrc hrow hbw
        obtain ⟨b1, b2, hb1, hb1', hb2, hb12⟩ := HD.out
        have HB12 := Lib.hid hb12
        clear hb12
        cases b1
        · clear hb2 HD
          go_wp2_with fail
          refine (placed_any (ln + 1) (c + 1) ai i ci ins _ HSRC.out HIL.out.symm (by have := HCL.out; omega) (by have := HIL.out; omega) (by have := HLN.out; omega) (by have := HCC.out; omega) (fun x hx => by have := HALL.out x hx; exact ⟨by omega, by omega, by omega, by omega⟩)).mono ?_
          rintro e w3 ⟨vc, vp, pls, rfl, hob, hpr, hpl, hpp, hb3⟩
          obtain ⟨gc, cc, hvc, _, _, _, _⟩ := hob.form
          obtain ⟨ap, cp, hvp⟩ := own_form hpr
          obtain ⟨m, hm⟩ : ∃ m, m = (codeOf ins).length := ⟨_, rfl⟩
          rw [← hm] at hvc hvp hpr hpl
          subst hvc hvp
          have hm1 : m ≤ 1000 := by rw [hm]; exact HCL.out
          have HM := Lib.hid hm
          have HPR := Lib.hid hpr
          have HPL := Lib.hid hpl
          have HPP := Lib.hid hpp
          have HB3 := Lib.hid hb3
          have HIN := Lib.hid (instr_any _ gc cc m (toksOf ins) w3 (by rw [readOf_toks]; exact hob) (by rw [readOf_toks]; exact hm) (by omega) (toks_ok ins (fun x hx => by have := HALL.out x hx; exact ⟨by omega, by omega, this.2.2.1⟩)))
          clear hm hpr hpl hpp hb3 hob
          go_wp2_with fail
          refine HIN.out.mono ?_
          rintro e w4 ⟨vg, rfl, hg4, hb4⟩
          obtain ⟨ag, cg, hvg⟩ := own_form hg4
          obtain ⟨nt, hnt⟩ : ∃ nt, nt = (toksOf ins).length := ⟨_, rfl⟩
          rw [← hnt] at hvg hg4
          subst hvg
          have hnt1 : nt ≤ 1000 := by rw [hnt]; have h1 := toks_len_le (toksOf ins); rw [readOf_toks] at h1; have := HCL.out; omega
          have HNT := Lib.hid hnt
          have HG4 := Lib.hid hg4
          have HPR4 := Lib.hid (own_below HPR.out hb4)
          have HB4 : Hid (Below w.heap.size w w4) := HBW.out.trans ((HB3.out.trans (hb4.mono HB3.out.size)).mono hsz)
          have HSRC4 : Hid (SrcAt w4 ai ins) := (HSRC.out.below HB3.out).below hb4
          clear hnt hg4 hb4
          go_wp2_with fail
          obtain ⟨PB, hPB⟩ : ∃ PB, PB = w4.heap.size := ⟨_, rfl⟩
          have HK0 : Hid (Blk (w4.alloc (.cells #[.int .i32 0, .int .i32 0] 48)) PB 48 #[.int .i32 0, .int .i32 0]) := by rw [hPB]; exact Blk.new w4 _ _
          have HB0 : Hid (Below PB w4 (w4.alloc (.cells #[.int .i32 0, .int .i32 0] 48))) := by rw [hPB]; exact (Below.refl _ w4).alloc (Nat.le_refl _) _
          rw [← hPB]
          have HPB := Lib.hid hPB
          clear hPB
          go_loopg [6, 15, 16, 18, 101] i (fun k r6 av kv bv jv w5 => ∃ (j p q : Nat) (kb : Bool) (pl pc : Int), jv = .int .i64 (j : Int) ∧ k + j = i ∧ r6 = .bool false ∧ av = .int .i64 (p : Int) ∧ kv = .int .i64 (q : Int) ∧ bv = .bool kb ∧ Hid (p = (codeOf (ins.take j)).length) ∧ Hid (q = (toksOf (ins.take j)).length) ∧ Hid (Blk w5 PB 48 #[.int .i32 pl, .int .i32 pc]) ∧ Hid (lastOf ins j = if kb then some (pl, pc) else none) ∧ Hid (Below PB w4 w5))
          case atStart => exact ⟨0, 0, 0, false, 0, 0, rfl, by omega, rfl, rfl, rfl, rfl, rfl, rfl, HK0.out, rfl, HB0.out⟩
          case round =>
            obtain ⟨j, p, q, kb, pl, pc, rfl, hk, rfl, rfl, rfl, rfl, hp, hq, hblk, hlast, hbw5⟩ := hrel
            have HK5 := Lib.hid hk
            clear hk
            by_cases hji : j < i
            · have hjl : j < ins.length := by rw [HIL.out]; exact hji
              have hdj : decide ((j : Int) < (i : Int)) = true := by simp; omega
              have hdj' : decide (j < i) = true := by simp; omega
              have htf := tok_first ins j hjl
              have htp := fun d => tok_pad ins j d hjl
              have htn := tok_next ins j hjl (fun x hx => (HALL.out x hx).1.1)
              have hcs1 := code_succ ins j hjl
              have hts1 := toks_succ ins j hjl
              have hls := last_succ ins j hjl
              have hli := last_is ins j hjl
              have hxall := HALL.out _ (List.getElem_mem hjl)
              rcases HSRC4.out with he | ⟨I, rfl, hI, hcs⟩
              · exfalso; rw [he] at hjl; simp at hjl
              have hcsj := hcs j hjl
              obtain ⟨x, hx⟩ : ∃ x, x = ins[j]'hjl := ⟨_, rfl⟩
              rw [← hx] at htf hcs1 hts1 hls hxall hcsj
              simp only [← hx] at htp htn
              rw [← hq.out] at htf
              simp only [← hq.out] at htp htn
              have hqnt : q < nt := by
                rw [HNT.out]
                exact (List.getElem?_eq_some_iff.1 htf).1
              obtain ⟨Gg, rfl, hGg, hGc⟩ := own_cell_all HG4.out (fun e => by have h1 := in_at _ _ _ htf; rw [e] at h1; simp at h1)
              have HGC : Hid (∀ W, Below PB w4 W → ∀ k t, (toksOf ins)[k]? = some t → W.cell? ⟨Gg, k * 3, none⟩ = some (.int .i64 (t.1 : Int)) ∧ W.cell? ⟨Gg, k * 3 + 1, none⟩ = some (.int .i64 (t.2 : Int)) ∧ W.cell? ⟨Gg, k * 3 + 2, none⟩ = some (.int .i64 ((tokBytes t).length : Int))) := fun W hW k t ht => by
                obtain ⟨h1, h2, h3⟩ := in_at _ _ _ ht
                have hGP : Gg < PB := by rw [HPB.out]; exact hGg
                exact ⟨(hW.cell (p := ⟨Gg, _, none⟩) hGP).trans (hGc _ _ h1), (hW.cell (p := ⟨Gg, _, none⟩) hGP).trans (hGc _ _ h2), (hW.cell (p := ⟨Gg, _, none⟩) hGP).trans (hGc _ _ h3)⟩
              obtain ⟨op, arg, lin, col⟩ := x
              obtain ⟨c0, c1, c2, c3⟩ := hcsj
              have hIP : I < PB := by rw [HPB.out]; exact hI
              have s0 := (hbw5.out.cell (p := ⟨I, j * 4, none⟩) hIP).trans c0
              have s1 := (hbw5.out.cell (p := ⟨I, j * 4 + 1, none⟩) hIP).trans c1
              have s2 := (hbw5.out.cell (p := ⟨I, j * 4 + 2, none⟩) hIP).trans c2
              have s3 := (hbw5.out.cell (p := ⟨I, j * 4 + 3, none⟩) hIP).trans c3
              obtain ⟨g0, g1, g2⟩ := HGC.out _ hbw5.out q _ htf
              simp only at s0 s1 s2 s3 g0 g1 hxall hls hcs1 htp htn hts1
              obtain ⟨⟨hop1, hop2⟩, harg, _, hlin, hcol⟩ := hxall
              have hPBl := hblk.out.lt
              obtain ⟨k0, k1, f0, f1⟩ := blk_two hblk.out
              have hGP : Gg < wr.heap.size := by have := HPB.out; omega
              have he1 : ((q : Int) == (nt : Int)) = false := by rw [beq_eq_false_iff_ne]; omega
              have hqn : (q : Int) < (nt : Int) := by omega
              obtain ⟨sz, hsz⟩ : ∃ sz, sz = (tokBytes (op, arg)).length := ⟨_, rfl⟩
              have hsz1 : 1 ≤ sz := by rw [hsz]; exact tokBytes_pos _
              rw [← hsz] at g2 hcs1
              have HSZ := Lib.hid hsz
              obtain ⟨pads, hpads⟩ : ∃ pads, pads = (Ins.mk op arg lin col).pads := ⟨_, rfl⟩
              have hl1 := congrArg List.length hts1
              rw [List.length_append, toks_len] at hl1
              rw [← hpads] at hcs1 hl1
              simp only [← hpads] at htp htn
              have HP1 : Hid ((codeOf (ins.take (j + 1))).length = p + sz + pads) := by unfold Hid; rw [hcs1, ← hp.out]
              have HQ1 : Hid ((toksOf (ins.take (j + 1))).length = q + 1 + pads) := by unfold Hid; rw [hl1, ← hq.out]; omega
              have hpm : p + sz + pads ≤ m := by rw [HM.out, ← HP1.out]; exact code_take_le _ _
              have hqm : q + 1 + pads ≤ nt := by rw [HNT.out, ← HQ1.out]; exact toks_take_le _ _
              have HTP := Lib.hid htp
              have HTN := Lib.hid htn
              have HTF := Lib.hid htf
              have HLS := Lib.hid hls
              obtain ⟨jb, hjb⟩ : ∃ jb, jb = decide (43 ≤ (op : Int) ∧ (op : Int) ≤ 45) := ⟨_, rfl⟩
              have HJP : Hid (jb = false → pads = 0) := fun h => by rw [hpads]; rw [hjb] at h; exact pads_jump _ (by simp at h ⊢; omega)
              have HJ : Hid (∀ W, Calls Try.prog 14 #[.int .i64 (op : Int)] W fun e w' => e = .returned (.bool jb) ∧ W = w') := fun W => jumps_any (op : Int) jb hjb W
              obtain ⟨gp, rfl, hgp, hgc⟩ := own_cell_all HPR4.out (flat2_ne pls (by rw [HPL.out]; omega))
              have hpp : p < pls.length := by rw [HPL.out]; omega
              obtain ⟨v1, v2, hv⟩ : ∃ v1 v2, pls[p]'hpp = (v1, v2) := ⟨_, _, rfl⟩
              have HPC : Hid (∀ W, Below PB w4 W → W.cell? ⟨gp, p * 2, none⟩ = some (.int .i32 v1) ∧ W.cell? ⟨gp, p * 2 + 1, none⟩ = some (.int .i32 v2)) := fun W hW => by
                have h1 := flat2_at pls p (v1, v2) (by rw [← hv]; exact List.getElem?_eq_getElem hpp)
                have hgP : gp < PB := by rw [HPB.out]; exact hgp
                exact ⟨(hW.cell (p := ⟨gp, _, none⟩) hgP).trans (hgc _ _ h1.1), (hW.cell (p := ⟨gp, _, none⟩) hgP).trans (hgc _ _ h1.2)⟩
              have HPK : Hid (∀ P, lastOf ins (j + 1) = some P → v1 = P.1 ∧ v2 = P.2) := fun P hP => by
                obtain ⟨q2, hq2, h1, h2⟩ := hli P hP
                have h3 := HPP.out p hpp q2 hq2 (by rw [hp.out]; exact h1)
                rw [hv] at h3
                rw [← h2, h3]; exact ⟨rfl, rfl⟩
              have hpm2 : p < m := by omega
              obtain ⟨xb, hxb⟩ : ∃ xb, xb = wr.heap.size := ⟨_, rfl⟩
              have HXB := Lib.hid hxb
              have hxP : PB < xb := by omega
              have HBL := Lib.hid hblk
              clear hgc hgp hv hpads hjb hsz htf htp htn hcs1 hts1 hls hli hl1 hx hcs c0 c1 c2 c3 hGc hGg hI hxb
              by_cases h0 : lin = 0
              · subst h0
                cases kb
                ·
                  have HL1 : Hid (lastOf ins (j + 1) = if false then some (pl, pc) else none) := by unfold Hid; rw [HLS.out, if_pos rfl]; exact hlast.out

                  go_wp2_with fail
                  go_quiet (fail)
                  go_wp2_with fail
                  obtain ⟨w6, hw6⟩ : ∃ w6, w6 = ((wr.alloc (.cells #[.int .i64 (op : Int), .int .u32 (arg : Int), .int .i32 0, .int .i32 col] 39)).drewN nq) := ⟨_, rfl⟩
                  rw [← hw6]
                  have hszw : PB ≤ wr.heap.size := by omega
                  have HK6 : Hid (Blk w6 PB 48 #[.int .i32 pl, .int .i32 pc]) := by rw [hw6]; exact ((hblk.out.alloc _).drewN _)
                  have HB6 : Hid (Below PB w4 w6) := by rw [hw6]; exact (below_dn (hbw5.out.alloc hszw _) nq)
                  have HX6 : Hid (Blk w6 xb 39 #[.int .i64 (op : Int), .int .u32 (arg : Int), .int .i32 0, .int .i32 col]) := by rw [hw6]; exact ((Blk.new_at wr _ _ HXB.out.symm).drewN nq)
                  obtain ⟨k0', k1', f0', f1'⟩ := blk_two HK6.out
                  obtain ⟨r0, r1⟩ := HPC.out _ HB6.out
                  have x0 : w6.cell? ⟨xb, 0, none⟩ = some (.int .i64 (op : Int)) := (HX6.out.cell 0).trans rfl
                  obtain ⟨y0, y1, y2⟩ := HGC.out _ HB6.out q _ HTF.out
                  rw [← HSZ.out] at y2
                  simp only at y0 y1
                  rw [← HXB.out]
                  clear hw6 k0 k1 f0 f1 s0 s1 s2 s3 g0 g1 g2
                  clear r0 r1
                  go_quiet (fail)
                  go_wp2_with fail

                  go_loopg [15, 16] pads (fun k av kv w7 => ∃ d a' q' : Nat, k + d = pads ∧ av = .int .i64 (a' : Int) ∧ kv = .int .i64 (q' : Int) ∧ a' = p + sz + d ∧ q' = q + 1 + d ∧ Hid (Blk w7 PB 48 #[.int .i32 pl, .int .i32 pc]) ∧ Hid (Below PB w4 w7) ∧ Hid (Blk w7 xb 39 #[.int .i64 (op : Int), .int .u32 (arg : Int), .int .i32 0, .int .i32 col]))
                  case atStart => exact ⟨0, p + sz, q + 1, by omega, by go_num, by go_num, by omega, by omega, HK6.out.drewN _, below_dn HB6.out _, HX6.out.drewN _⟩
                  case round =>
                    obtain ⟨d, a', q', hkd, rfl, rfl, ha', hq', hK7, hB7, hX7⟩ := hrel
                    have x0 : wr.cell? ⟨xb, 0, none⟩ = some (.int .i64 (op : Int)) := (hX7.out.cell 0).trans rfl
                    have ha1 : a' ≤ 1000 := by omega
                    have hq1 : q' ≤ 1000 := by omega
                    have HA := Lib.hid ha'
                    have HQ := Lib.hid hq'
                    have HKD := Lib.hid hkd
                    clear ha' hq' hkd
                    cases jb
                    · have HDQ : Hid (d = pads) := by
                        unfold Hid
                        have h1 := HJP.out rfl
                        have h2 := HKD.out
                        omega
                      go_wp2_with (go_at_call 14; refine (HJ.out _).mono ?_; rintro e w' ⟨rfl, rfl⟩)
                      go_roundg (i - (j + 1))
                      case measure => have := HK5.out; omega
                      case rel => exact ⟨j + 1, a', q', false, pl, pc, by go_num, by have := HK5.out; omega, rfl, rfl, rfl, rfl, by have := HA.out; have := HDQ.out; unfold Hid; rw [HP1.out]; omega, by have := HQ.out; have := HDQ.out; unfold Hid; rw [HQ1.out]; omega, hK7.out, HL1.out, hB7.out⟩
                    · by_cases hqn' : q' < nt
                      · have hd1 : decide ((q' : Int) < (nt : Int)) = true := by simp; omega
                        have hd2 : decide (q' < nt) = true := by simp; omega
                        obtain ⟨t, ht⟩ : ∃ t, (toksOf ins)[q']? = some t := ⟨_, List.getElem?_eq_getElem (by rw [← HNT.out]; exact hqn')⟩
                        obtain ⟨y0, _, _⟩ := HGC.out _ hB7.out q' _ ht
                        by_cases hdp : d < pads
                        · have ht2 := HTP.out d hdp
                          rw [← HQ.out, ht] at ht2
                          obtain rfl := Option.some.inj ht2
                          have y0' : wr.cell? ⟨Gg, q' * 3, none⟩ = some (.int .i64 0) := y0
                          clear y0 ht ht2
                          go_wp2_with (go_at_call 14; refine (HJ.out _).mono ?_; rintro e w' ⟨rfl, rfl⟩)
                          go_roundg (pads - (d + 1))
                          case measure => have := HKD.out; omega
                          case rel => exact ⟨d + 1, a' + 1, q' + 1, by have := HKD.out; omega, by go_num, by go_num, by have := HA.out; omega, by have := HQ.out; omega, hK7.out, hB7.out, hX7.out⟩
                        · have hdq : d = pads := by have := HKD.out; omega
                          have ht2 := HTN.out t (by rw [← hdq, ← HQ.out]; exact ht)
                          obtain ⟨t1, t2⟩ := t
                          simp only at ht2 y0
                          have he2 : ((t1 : Int) == 0) = false := by rw [beq_eq_false_iff_ne]; omega
                          have HDQ := Lib.hid hdq
                          clear ht hdq
                          go_wp2_with (go_at_call 14; refine (HJ.out _).mono ?_; rintro e w' ⟨rfl, rfl⟩)
                          go_roundg (i - (j + 1))
                          case measure => have := HK5.out; omega
                          case rel => exact ⟨j + 1, a', q', false, pl, pc, by go_num, by have := HK5.out; omega, rfl, rfl, rfl, rfl, by have := HA.out; have := HDQ.out; unfold Hid; rw [HP1.out]; omega, by have := HQ.out; have := HDQ.out; unfold Hid; rw [HQ1.out]; omega, hK7.out, HL1.out, hB7.out⟩
                      · have hd1 : decide ((q' : Int) < (nt : Int)) = false := by simp; omega
                        have hd2 : decide (q' < nt) = false := by simp; omega
                        have HDQ : Hid (d = pads) := by
                          unfold Hid
                          have h1 := HKD.out
                          have h2 := HQ.out
                          omega
                        go_wp2_with (go_at_call 14; refine (HJ.out _).mono ?_; rintro e w' ⟨rfl, rfl⟩)
                        go_roundg (i - (j + 1))
                        case measure => have := HK5.out; omega
                        case rel => exact ⟨j + 1, a', q', false, pl, pc, by go_num, by have := HK5.out; omega, rfl, rfl, rfl, rfl, by have := HA.out; have := HDQ.out; unfold Hid; rw [HP1.out]; omega, by have := HQ.out; have := HDQ.out; unfold Hid; rw [HQ1.out]; omega, hK7.out, HL1.out, hB7.out⟩
                ·
                  have HL1 : Hid (lastOf ins (j + 1) = if true then some (pl, pc) else none) := by unfold Hid; rw [HLS.out, if_pos rfl]; exact hlast.out
                  obtain ⟨e1, e2⟩ := HPK.out (pl, pc) HL1.out
                  simp only at e1 e2
                  go_wp2_with fail
                  go_quiet (fail)
                  go_wp2_with fail
                  obtain ⟨w6, hw6⟩ : ∃ w6, w6 = ((wr.alloc (.cells #[.int .i64 (op : Int), .int .u32 (arg : Int), .int .i32 0, .int .i32 col] 39)).drewN nq) := ⟨_, rfl⟩
                  rw [← hw6]
                  have hszw : PB ≤ wr.heap.size := by omega
                  have HK6 : Hid (Blk w6 PB 48 #[.int .i32 pl, .int .i32 pc]) := by rw [hw6]; exact ((hblk.out.alloc _).drewN _)
                  have HB6 : Hid (Below PB w4 w6) := by rw [hw6]; exact (below_dn (hbw5.out.alloc hszw _) nq)
                  have HX6 : Hid (Blk w6 xb 39 #[.int .i64 (op : Int), .int .u32 (arg : Int), .int .i32 0, .int .i32 col]) := by rw [hw6]; exact ((Blk.new_at wr _ _ HXB.out.symm).drewN nq)
                  obtain ⟨k0', k1', f0', f1'⟩ := blk_two HK6.out
                  obtain ⟨r0, r1⟩ := HPC.out _ HB6.out
                  have x0 : w6.cell? ⟨xb, 0, none⟩ = some (.int .i64 (op : Int)) := (HX6.out.cell 0).trans rfl
                  obtain ⟨y0, y1, y2⟩ := HGC.out _ HB6.out q _ HTF.out
                  rw [← HSZ.out] at y2
                  simp only at y0 y1
                  rw [← HXB.out]
                  clear hw6 k0 k1 f0 f1 s0 s1 s2 s3 g0 g1 g2
                  rw [e1] at r0
                  rw [e2] at r1
                  clear e1 e2
                  go_quiet (fail)
                  go_wp2_with fail

                  go_loopg [15, 16] pads (fun k av kv w7 => ∃ d a' q' : Nat, k + d = pads ∧ av = .int .i64 (a' : Int) ∧ kv = .int .i64 (q' : Int) ∧ a' = p + sz + d ∧ q' = q + 1 + d ∧ Hid (Blk w7 PB 48 #[.int .i32 pl, .int .i32 pc]) ∧ Hid (Below PB w4 w7) ∧ Hid (Blk w7 xb 39 #[.int .i64 (op : Int), .int .u32 (arg : Int), .int .i32 0, .int .i32 col]))
                  case atStart => exact ⟨0, p + sz, q + 1, by omega, by go_num, by go_num, by omega, by omega, HK6.out.drewN _, below_dn HB6.out _, HX6.out.drewN _⟩
                  case round =>
                    obtain ⟨d, a', q', hkd, rfl, rfl, ha', hq', hK7, hB7, hX7⟩ := hrel
                    have x0 : wr.cell? ⟨xb, 0, none⟩ = some (.int .i64 (op : Int)) := (hX7.out.cell 0).trans rfl
                    have ha1 : a' ≤ 1000 := by omega
                    have hq1 : q' ≤ 1000 := by omega
                    have HA := Lib.hid ha'
                    have HQ := Lib.hid hq'
                    have HKD := Lib.hid hkd
                    clear ha' hq' hkd
                    cases jb
                    · have HDQ : Hid (d = pads) := by
                        unfold Hid
                        have h1 := HJP.out rfl
                        have h2 := HKD.out
                        omega
                      go_wp2_with (go_at_call 14; refine (HJ.out _).mono ?_; rintro e w' ⟨rfl, rfl⟩)
                      go_roundg (i - (j + 1))
                      case measure => have := HK5.out; omega
                      case rel => exact ⟨j + 1, a', q', true, pl, pc, by go_num, by have := HK5.out; omega, rfl, rfl, rfl, rfl, by have := HA.out; have := HDQ.out; unfold Hid; rw [HP1.out]; omega, by have := HQ.out; have := HDQ.out; unfold Hid; rw [HQ1.out]; omega, hK7.out, HL1.out, hB7.out⟩
                    · by_cases hqn' : q' < nt
                      · have hd1 : decide ((q' : Int) < (nt : Int)) = true := by simp; omega
                        have hd2 : decide (q' < nt) = true := by simp; omega
                        obtain ⟨t, ht⟩ : ∃ t, (toksOf ins)[q']? = some t := ⟨_, List.getElem?_eq_getElem (by rw [← HNT.out]; exact hqn')⟩
                        obtain ⟨y0, _, _⟩ := HGC.out _ hB7.out q' _ ht
                        by_cases hdp : d < pads
                        · have ht2 := HTP.out d hdp
                          rw [← HQ.out, ht] at ht2
                          obtain rfl := Option.some.inj ht2
                          have y0' : wr.cell? ⟨Gg, q' * 3, none⟩ = some (.int .i64 0) := y0
                          clear y0 ht ht2
                          go_wp2_with (go_at_call 14; refine (HJ.out _).mono ?_; rintro e w' ⟨rfl, rfl⟩)
                          go_roundg (pads - (d + 1))
                          case measure => have := HKD.out; omega
                          case rel => exact ⟨d + 1, a' + 1, q' + 1, by have := HKD.out; omega, by go_num, by go_num, by have := HA.out; omega, by have := HQ.out; omega, hK7.out, hB7.out, hX7.out⟩
                        · have hdq : d = pads := by have := HKD.out; omega
                          have ht2 := HTN.out t (by rw [← hdq, ← HQ.out]; exact ht)
                          obtain ⟨t1, t2⟩ := t
                          simp only at ht2 y0
                          have he2 : ((t1 : Int) == 0) = false := by rw [beq_eq_false_iff_ne]; omega
                          have HDQ := Lib.hid hdq
                          clear ht hdq
                          go_wp2_with (go_at_call 14; refine (HJ.out _).mono ?_; rintro e w' ⟨rfl, rfl⟩)
                          go_roundg (i - (j + 1))
                          case measure => have := HK5.out; omega
                          case rel => exact ⟨j + 1, a', q', true, pl, pc, by go_num, by have := HK5.out; omega, rfl, rfl, rfl, rfl, by have := HA.out; have := HDQ.out; unfold Hid; rw [HP1.out]; omega, by have := HQ.out; have := HDQ.out; unfold Hid; rw [HQ1.out]; omega, hK7.out, HL1.out, hB7.out⟩
                      · have hd1 : decide ((q' : Int) < (nt : Int)) = false := by simp; omega
                        have hd2 : decide (q' < nt) = false := by simp; omega
                        have HDQ : Hid (d = pads) := by
                          unfold Hid
                          have h1 := HKD.out
                          have h2 := HQ.out
                          omega
                        go_wp2_with (go_at_call 14; refine (HJ.out _).mono ?_; rintro e w' ⟨rfl, rfl⟩)
                        go_roundg (i - (j + 1))
                        case measure => have := HK5.out; omega
                        case rel => exact ⟨j + 1, a', q', true, pl, pc, by go_num, by have := HK5.out; omega, rfl, rfl, rfl, rfl, by have := HA.out; have := HDQ.out; unfold Hid; rw [HP1.out]; omega, by have := HQ.out; have := HDQ.out; unfold Hid; rw [HQ1.out]; omega, hK7.out, HL1.out, hB7.out⟩
              ·
                have hb0 : (lin != 0) = true := by rw [bne_iff_ne]; exact h0
                have hb0' : (lin == 0) = false := by rw [beq_eq_false_iff_ne]; exact h0
                have HL1 : Hid (lastOf ins (j + 1) = if true then some (lin, col) else none) := by unfold Hid; rw [HLS.out, if_neg h0]; rfl
                obtain ⟨e1, e2⟩ := HPK.out (lin, col) HL1.out
                simp only at e1 e2
                clear h0
                go_wp2_with fail
                go_quiet (fail)
                go_wp2_with fail
                obtain ⟨w6, hw6⟩ : ∃ w6, w6 = ((((wr.alloc (.cells #[.int .i64 (op : Int), .int .u32 (arg : Int), .int .i32 lin, .int .i32 col] 39)).drewN nq).setCell ⟨PB, 0, none⟩ (.int .i32 lin)).setCell ⟨PB, 1, none⟩ (.int .i32 col)) := ⟨_, rfl⟩
                rw [← hw6]
                have hszw : PB ≤ wr.heap.size := by omega
                have HK6 : Hid (Blk w6 PB 48 #[.int .i32 lin, .int .i32 col]) := by rw [hw6]; exact ((((hblk.out.alloc _).drewN _).put 0 (.int .i32 lin)).put 1 (.int .i32 col))
                have HB6 : Hid (Below PB w4 w6) := by rw [hw6]; exact ((below_dn (hbw5.out.alloc hszw _) nq).setCell (p := ⟨PB, 0, none⟩) (Nat.le_refl _) _).setCell (p := ⟨PB, 1, none⟩) (Nat.le_refl _) _
                have HX6 : Hid (Blk w6 xb 39 #[.int .i64 (op : Int), .int .u32 (arg : Int), .int .i32 lin, .int .i32 col]) := by rw [hw6]; exact ((((Blk.new_at wr _ _ HXB.out.symm).drewN nq).far (p := ⟨PB, 0, none⟩) (by simp; omega) _).far (p := ⟨PB, 1, none⟩) (by simp; omega) _)
                obtain ⟨k0', k1', f0', f1'⟩ := blk_two HK6.out
                obtain ⟨r0, r1⟩ := HPC.out _ HB6.out
                have x0 : w6.cell? ⟨xb, 0, none⟩ = some (.int .i64 (op : Int)) := (HX6.out.cell 0).trans rfl
                obtain ⟨y0, y1, y2⟩ := HGC.out _ HB6.out q _ HTF.out
                rw [← HSZ.out] at y2
                simp only at y0 y1
                rw [← HXB.out]
                clear hw6 k0 k1 f0 f1 s0 s1 s2 s3 g0 g1 g2
                rw [e1] at r0
                rw [e2] at r1
                clear e1 e2
                go_quiet (fail)
                go_wp2_with fail

                go_loopg [15, 16] pads (fun k av kv w7 => ∃ d a' q' : Nat, k + d = pads ∧ av = .int .i64 (a' : Int) ∧ kv = .int .i64 (q' : Int) ∧ a' = p + sz + d ∧ q' = q + 1 + d ∧ Hid (Blk w7 PB 48 #[.int .i32 lin, .int .i32 col]) ∧ Hid (Below PB w4 w7) ∧ Hid (Blk w7 xb 39 #[.int .i64 (op : Int), .int .u32 (arg : Int), .int .i32 lin, .int .i32 col]))
                case atStart => exact ⟨0, p + sz, q + 1, by omega, by go_num, by go_num, by omega, by omega, HK6.out.drewN _, below_dn HB6.out _, HX6.out.drewN _⟩
                case round =>
                  obtain ⟨d, a', q', hkd, rfl, rfl, ha', hq', hK7, hB7, hX7⟩ := hrel
                  have x0 : wr.cell? ⟨xb, 0, none⟩ = some (.int .i64 (op : Int)) := (hX7.out.cell 0).trans rfl
                  have ha1 : a' ≤ 1000 := by omega
                  have hq1 : q' ≤ 1000 := by omega
                  have HA := Lib.hid ha'
                  have HQ := Lib.hid hq'
                  have HKD := Lib.hid hkd
                  clear ha' hq' hkd
                  cases jb
                  · have HDQ : Hid (d = pads) := by
                      unfold Hid
                      have h1 := HJP.out rfl
                      have h2 := HKD.out
                      omega
                    go_wp2_with (go_at_call 14; refine (HJ.out _).mono ?_; rintro e w' ⟨rfl, rfl⟩)
                    go_roundg (i - (j + 1))
                    case measure => have := HK5.out; omega
                    case rel => exact ⟨j + 1, a', q', true, lin, col, by go_num, by have := HK5.out; omega, rfl, rfl, rfl, rfl, by have := HA.out; have := HDQ.out; unfold Hid; rw [HP1.out]; omega, by have := HQ.out; have := HDQ.out; unfold Hid; rw [HQ1.out]; omega, hK7.out, HL1.out, hB7.out⟩
                  · by_cases hqn' : q' < nt
                    · have hd1 : decide ((q' : Int) < (nt : Int)) = true := by simp; omega
                      have hd2 : decide (q' < nt) = true := by simp; omega
                      obtain ⟨t, ht⟩ : ∃ t, (toksOf ins)[q']? = some t := ⟨_, List.getElem?_eq_getElem (by rw [← HNT.out]; exact hqn')⟩
                      obtain ⟨y0, _, _⟩ := HGC.out _ hB7.out q' _ ht
                      by_cases hdp : d < pads
                      · have ht2 := HTP.out d hdp
                        rw [← HQ.out, ht] at ht2
                        obtain rfl := Option.some.inj ht2
                        have y0' : wr.cell? ⟨Gg, q' * 3, none⟩ = some (.int .i64 0) := y0
                        clear y0 ht ht2
                        go_wp2_with (go_at_call 14; refine (HJ.out _).mono ?_; rintro e w' ⟨rfl, rfl⟩)
                        go_roundg (pads - (d + 1))
                        case measure => have := HKD.out; omega
                        case rel => exact ⟨d + 1, a' + 1, q' + 1, by have := HKD.out; omega, by go_num, by go_num, by have := HA.out; omega, by have := HQ.out; omega, hK7.out, hB7.out, hX7.out⟩
                      · have hdq : d = pads := by have := HKD.out; omega
                        have ht2 := HTN.out t (by rw [← hdq, ← HQ.out]; exact ht)
                        obtain ⟨t1, t2⟩ := t
                        simp only at ht2 y0
                        have he2 : ((t1 : Int) == 0) = false := by rw [beq_eq_false_iff_ne]; omega
                        have HDQ := Lib.hid hdq
                        clear ht hdq
                        go_wp2_with (go_at_call 14; refine (HJ.out _).mono ?_; rintro e w' ⟨rfl, rfl⟩)
                        go_roundg (i - (j + 1))
                        case measure => have := HK5.out; omega
                        case rel => exact ⟨j + 1, a', q', true, lin, col, by go_num, by have := HK5.out; omega, rfl, rfl, rfl, rfl, by have := HA.out; have := HDQ.out; unfold Hid; rw [HP1.out]; omega, by have := HQ.out; have := HDQ.out; unfold Hid; rw [HQ1.out]; omega, hK7.out, HL1.out, hB7.out⟩
                    · have hd1 : decide ((q' : Int) < (nt : Int)) = false := by simp; omega
                      have hd2 : decide (q' < nt) = false := by simp; omega
                      have HDQ : Hid (d = pads) := by
                        unfold Hid
                        have h1 := HKD.out
                        have h2 := HQ.out
                        omega
                      go_wp2_with (go_at_call 14; refine (HJ.out _).mono ?_; rintro e w' ⟨rfl, rfl⟩)
                      go_roundg (i - (j + 1))
                      case measure => have := HK5.out; omega
                      case rel => exact ⟨j + 1, a', q', true, lin, col, by go_num, by have := HK5.out; omega, rfl, rfl, rfl, rfl, by have := HA.out; have := HDQ.out; unfold Hid; rw [HP1.out]; omega, by have := HQ.out; have := HDQ.out; unfold Hid; rw [HQ1.out]; omega, hK7.out, HL1.out, hB7.out⟩
            · obtain rfl : j = i := by have := HK5.out; omega
              have hqe : q = nt := by rw [hq.out, HNT.out, List.take_of_length_le (by rw [HIL.out]; exact Nat.le_refl _)]
              have he9 : ((q : Int) == (nt : Int)) = true := by rw [hqe]; exact beq_self_eq_true _
              have HB9 : Hid (Below w.heap.size w wr) := HB4.out.trans (hbw5.out.mono (by have := HB4.out.size; have := HPB.out; omega))
              clear hqe
              go_wp2_with fail
              go_ret
              exact ⟨rfl, HB9.out⟩
        · obtain rfl := HB12.out rfl
          clear HD
          go_wp2_with fail
          refine (placed_any (ln + 1) (c + 1) ai i ci ins _ HSRC.out HIL.out.symm (by have := HCL.out; omega) (by have := HIL.out; omega) (by have := HLN.out; omega) (by have := HCC.out; omega) (fun x hx => by have := HALL.out x hx; exact ⟨by omega, by omega, by omega, by omega⟩)).mono ?_
          rintro e w3 ⟨vc, vp, pls, rfl, hob, hpr, hpl, hpp, hb3⟩
          obtain ⟨gc, cc, hvc, _, _, _, _⟩ := hob.form
          obtain ⟨ap, cp, hvp⟩ := own_form hpr
          obtain ⟨m, hm⟩ : ∃ m, m = (codeOf ins).length := ⟨_, rfl⟩
          rw [← hm] at hvc hvp hpr hpl
          subst hvc hvp
          have hm1 : m ≤ 1000 := by rw [hm]; exact HCL.out
          have HM := Lib.hid hm
          have HPR := Lib.hid hpr
          have HPL := Lib.hid hpl
          have HPP := Lib.hid hpp
          have HB3 := Lib.hid hb3
          have HIN := Lib.hid (instr_any _ gc cc m (toksOf ins) w3 (by rw [readOf_toks]; exact hob) (by rw [readOf_toks]; exact hm) (by omega) (toks_ok ins (fun x hx => by have := HALL.out x hx; exact ⟨by omega, by omega, this.2.2.1⟩)))
          clear hm hpr hpl hpp hb3 hob
          go_wp2_with fail
          refine HIN.out.mono ?_
          rintro e w4 ⟨vg, rfl, hg4, hb4⟩
          obtain ⟨ag, cg, hvg⟩ := own_form hg4
          obtain ⟨nt, hnt⟩ : ∃ nt, nt = (toksOf ins).length := ⟨_, rfl⟩
          rw [← hnt] at hvg hg4
          subst hvg
          have hnt1 : nt ≤ 1000 := by rw [hnt]; have h1 := toks_len_le (toksOf ins); rw [readOf_toks] at h1; have := HCL.out; omega
          have HNT := Lib.hid hnt
          have HG4 := Lib.hid hg4
          have HPR4 := Lib.hid (own_below HPR.out hb4)
          have HB4 : Hid (Below w.heap.size w w4) := HBW.out.trans ((HB3.out.trans (hb4.mono HB3.out.size)).mono hsz)
          have HSRC4 : Hid (SrcAt w4 ai ins) := (HSRC.out.below HB3.out).below hb4
          clear hnt hg4 hb4
          go_wp2_with fail
          obtain ⟨PB, hPB⟩ : ∃ PB, PB = w4.heap.size := ⟨_, rfl⟩
          have HK0 : Hid (Blk (w4.alloc (.cells #[.int .i32 0, .int .i32 0] 48)) PB 48 #[.int .i32 0, .int .i32 0]) := by rw [hPB]; exact Blk.new w4 _ _
          have HB0 : Hid (Below PB w4 (w4.alloc (.cells #[.int .i32 0, .int .i32 0] 48))) := by rw [hPB]; exact (Below.refl _ w4).alloc (Nat.le_refl _) _
          rw [← hPB]
          have HPB := Lib.hid hPB
          clear hPB
          go_loopg [6, 15, 16, 18, 101] i (fun k r6 av kv bv jv w5 => ∃ (j p q : Nat) (kb : Bool) (pl pc : Int), jv = .int .i64 (j : Int) ∧ k + j = i ∧ r6 = .bool false ∧ av = .int .i64 (p : Int) ∧ kv = .int .i64 (q : Int) ∧ bv = .bool kb ∧ Hid (p = (codeOf (ins.take j)).length) ∧ Hid (q = (toksOf (ins.take j)).length) ∧ Hid (Blk w5 PB 48 #[.int .i32 pl, .int .i32 pc]) ∧ Hid (lastOf ins j = if kb then some (pl, pc) else none) ∧ Hid (Below PB w4 w5))
          case atStart => exact ⟨0, 0, 0, false, 0, 0, rfl, by omega, rfl, rfl, rfl, rfl, rfl, rfl, HK0.out, rfl, HB0.out⟩
          case round =>
            obtain ⟨j, p, q, kb, pl, pc, rfl, hk, rfl, rfl, rfl, rfl, hp, hq, hblk, hlast, hbw5⟩ := hrel
            have HK5 := Lib.hid hk
            clear hk
            by_cases hji : j < i
            · have hjl : j < ins.length := by rw [HIL.out]; exact hji
              have hdj : decide ((j : Int) < (i : Int)) = true := by simp; omega
              have hdj' : decide (j < i) = true := by simp; omega
              have htf := tok_first ins j hjl
              have htp := fun d => tok_pad ins j d hjl
              have htn := tok_next ins j hjl (fun x hx => (HALL.out x hx).1.1)
              have hcs1 := code_succ ins j hjl
              have hts1 := toks_succ ins j hjl
              have hls := last_succ ins j hjl
              have hli := last_is ins j hjl
              have hxall := HALL.out _ (List.getElem_mem hjl)
              rcases HSRC4.out with he | ⟨I, rfl, hI, hcs⟩
              · exfalso; rw [he] at hjl; simp at hjl
              have hcsj := hcs j hjl
              obtain ⟨x, hx⟩ : ∃ x, x = ins[j]'hjl := ⟨_, rfl⟩
              rw [← hx] at htf hcs1 hts1 hls hxall hcsj
              simp only [← hx] at htp htn
              rw [← hq.out] at htf
              simp only [← hq.out] at htp htn
              have hqnt : q < nt := by
                rw [HNT.out]
                exact (List.getElem?_eq_some_iff.1 htf).1
              obtain ⟨Gg, rfl, hGg, hGc⟩ := own_cell_all HG4.out (fun e => by have h1 := in_at _ _ _ htf; rw [e] at h1; simp at h1)
              have HGC : Hid (∀ W, Below PB w4 W → ∀ k t, (toksOf ins)[k]? = some t → W.cell? ⟨Gg, k * 3, none⟩ = some (.int .i64 (t.1 : Int)) ∧ W.cell? ⟨Gg, k * 3 + 1, none⟩ = some (.int .i64 (t.2 : Int)) ∧ W.cell? ⟨Gg, k * 3 + 2, none⟩ = some (.int .i64 ((tokBytes t).length : Int))) := fun W hW k t ht => by
                obtain ⟨h1, h2, h3⟩ := in_at _ _ _ ht
                have hGP : Gg < PB := by rw [HPB.out]; exact hGg
                exact ⟨(hW.cell (p := ⟨Gg, _, none⟩) hGP).trans (hGc _ _ h1), (hW.cell (p := ⟨Gg, _, none⟩) hGP).trans (hGc _ _ h2), (hW.cell (p := ⟨Gg, _, none⟩) hGP).trans (hGc _ _ h3)⟩
              obtain ⟨op, arg, lin, col⟩ := x
              obtain ⟨c0, c1, c2, c3⟩ := hcsj
              have hIP : I < PB := by rw [HPB.out]; exact hI
              have s0 := (hbw5.out.cell (p := ⟨I, j * 4, none⟩) hIP).trans c0
              have s1 := (hbw5.out.cell (p := ⟨I, j * 4 + 1, none⟩) hIP).trans c1
              have s2 := (hbw5.out.cell (p := ⟨I, j * 4 + 2, none⟩) hIP).trans c2
              have s3 := (hbw5.out.cell (p := ⟨I, j * 4 + 3, none⟩) hIP).trans c3
              obtain ⟨g0, g1, g2⟩ := HGC.out _ hbw5.out q _ htf
              simp only at s0 s1 s2 s3 g0 g1 hxall hls hcs1 htp htn hts1
              obtain ⟨⟨hop1, hop2⟩, harg, _, hlin, hcol⟩ := hxall
              have hPBl := hblk.out.lt
              obtain ⟨k0, k1, f0, f1⟩ := blk_two hblk.out
              have hGP : Gg < wr.heap.size := by have := HPB.out; omega
              have he1 : ((q : Int) == (nt : Int)) = false := by rw [beq_eq_false_iff_ne]; omega
              have hqn : (q : Int) < (nt : Int) := by omega
              obtain ⟨sz, hsz⟩ : ∃ sz, sz = (tokBytes (op, arg)).length := ⟨_, rfl⟩
              have hsz1 : 1 ≤ sz := by rw [hsz]; exact tokBytes_pos _
              rw [← hsz] at g2 hcs1
              have HSZ := Lib.hid hsz
              obtain ⟨pads, hpads⟩ : ∃ pads, pads = (Ins.mk op arg lin col).pads := ⟨_, rfl⟩
              have hl1 := congrArg List.length hts1
              rw [List.length_append, toks_len] at hl1
              rw [← hpads] at hcs1 hl1
              simp only [← hpads] at htp htn
              have HP1 : Hid ((codeOf (ins.take (j + 1))).length = p + sz + pads) := by unfold Hid; rw [hcs1, ← hp.out]
              have HQ1 : Hid ((toksOf (ins.take (j + 1))).length = q + 1 + pads) := by unfold Hid; rw [hl1, ← hq.out]; omega
              have hpm : p + sz + pads ≤ m := by rw [HM.out, ← HP1.out]; exact code_take_le _ _
              have hqm : q + 1 + pads ≤ nt := by rw [HNT.out, ← HQ1.out]; exact toks_take_le _ _
              have HTP := Lib.hid htp
              have HTN := Lib.hid htn
              have HTF := Lib.hid htf
              have HLS := Lib.hid hls
              obtain ⟨jb, hjb⟩ : ∃ jb, jb = decide (43 ≤ (op : Int) ∧ (op : Int) ≤ 45) := ⟨_, rfl⟩
              have HJP : Hid (jb = false → pads = 0) := fun h => by rw [hpads]; rw [hjb] at h; exact pads_jump _ (by simp at h ⊢; omega)
              have HJ : Hid (∀ W, Calls Try.prog 14 #[.int .i64 (op : Int)] W fun e w' => e = .returned (.bool jb) ∧ W = w') := fun W => jumps_any (op : Int) jb hjb W
              obtain ⟨gp, rfl, hgp, hgc⟩ := own_cell_all HPR4.out (flat2_ne pls (by rw [HPL.out]; omega))
              have hpp : p < pls.length := by rw [HPL.out]; omega
              obtain ⟨v1, v2, hv⟩ : ∃ v1 v2, pls[p]'hpp = (v1, v2) := ⟨_, _, rfl⟩
              have HPC : Hid (∀ W, Below PB w4 W → W.cell? ⟨gp, p * 2, none⟩ = some (.int .i32 v1) ∧ W.cell? ⟨gp, p * 2 + 1, none⟩ = some (.int .i32 v2)) := fun W hW => by
                have h1 := flat2_at pls p (v1, v2) (by rw [← hv]; exact List.getElem?_eq_getElem hpp)
                have hgP : gp < PB := by rw [HPB.out]; exact hgp
                exact ⟨(hW.cell (p := ⟨gp, _, none⟩) hgP).trans (hgc _ _ h1.1), (hW.cell (p := ⟨gp, _, none⟩) hgP).trans (hgc _ _ h1.2)⟩
              have HPK : Hid (∀ P, lastOf ins (j + 1) = some P → v1 = P.1 ∧ v2 = P.2) := fun P hP => by
                obtain ⟨q2, hq2, h1, h2⟩ := hli P hP
                have h3 := HPP.out p hpp q2 hq2 (by rw [hp.out]; exact h1)
                rw [hv] at h3
                rw [← h2, h3]; exact ⟨rfl, rfl⟩
              have hpm2 : p < m := by omega
              obtain ⟨xb, hxb⟩ : ∃ xb, xb = wr.heap.size := ⟨_, rfl⟩
              have HXB := Lib.hid hxb
              have hxP : PB < xb := by omega
              have HBL := Lib.hid hblk
              clear hgc hgp hv hpads hjb hsz htf htp htn hcs1 hts1 hls hli hl1 hx hcs c0 c1 c2 c3 hGc hGg hI hxb
              by_cases h0 : lin = 0
              · subst h0
                cases kb
                ·
                  have HL1 : Hid (lastOf ins (j + 1) = if false then some (pl, pc) else none) := by unfold Hid; rw [HLS.out, if_pos rfl]; exact hlast.out

                  go_wp2_with fail
                  go_quiet (fail)
                  go_wp2_with fail
                  obtain ⟨w6, hw6⟩ : ∃ w6, w6 = ((wr.alloc (.cells #[.int .i64 (op : Int), .int .u32 (arg : Int), .int .i32 0, .int .i32 col] 39)).drewN nq) := ⟨_, rfl⟩
                  rw [← hw6]
                  have hszw : PB ≤ wr.heap.size := by omega
                  have HK6 : Hid (Blk w6 PB 48 #[.int .i32 pl, .int .i32 pc]) := by rw [hw6]; exact ((hblk.out.alloc _).drewN _)
                  have HB6 : Hid (Below PB w4 w6) := by rw [hw6]; exact (below_dn (hbw5.out.alloc hszw _) nq)
                  have HX6 : Hid (Blk w6 xb 39 #[.int .i64 (op : Int), .int .u32 (arg : Int), .int .i32 0, .int .i32 col]) := by rw [hw6]; exact ((Blk.new_at wr _ _ HXB.out.symm).drewN nq)
                  obtain ⟨k0', k1', f0', f1'⟩ := blk_two HK6.out
                  obtain ⟨r0, r1⟩ := HPC.out _ HB6.out
                  have x0 : w6.cell? ⟨xb, 0, none⟩ = some (.int .i64 (op : Int)) := (HX6.out.cell 0).trans rfl
                  obtain ⟨y0, y1, y2⟩ := HGC.out _ HB6.out q _ HTF.out
                  rw [← HSZ.out] at y2
                  simp only at y0 y1
                  rw [← HXB.out]
                  clear hw6 k0 k1 f0 f1 s0 s1 s2 s3 g0 g1 g2
                  clear r0 r1
                  go_quiet (fail)
                  go_wp2_with fail

                  go_loopg [15, 16] pads (fun k av kv w7 => ∃ d a' q' : Nat, k + d = pads ∧ av = .int .i64 (a' : Int) ∧ kv = .int .i64 (q' : Int) ∧ a' = p + sz + d ∧ q' = q + 1 + d ∧ Hid (Blk w7 PB 48 #[.int .i32 pl, .int .i32 pc]) ∧ Hid (Below PB w4 w7) ∧ Hid (Blk w7 xb 39 #[.int .i64 (op : Int), .int .u32 (arg : Int), .int .i32 0, .int .i32 col]))
                  case atStart => exact ⟨0, p + sz, q + 1, by omega, by go_num, by go_num, by omega, by omega, HK6.out.drewN _, below_dn HB6.out _, HX6.out.drewN _⟩
                  case round =>
                    obtain ⟨d, a', q', hkd, rfl, rfl, ha', hq', hK7, hB7, hX7⟩ := hrel
                    have x0 : wr.cell? ⟨xb, 0, none⟩ = some (.int .i64 (op : Int)) := (hX7.out.cell 0).trans rfl
                    have ha1 : a' ≤ 1000 := by omega
                    have hq1 : q' ≤ 1000 := by omega
                    have HA := Lib.hid ha'
                    have HQ := Lib.hid hq'
                    have HKD := Lib.hid hkd
                    clear ha' hq' hkd
                    cases jb
                    · have HDQ : Hid (d = pads) := by
                        unfold Hid
                        have h1 := HJP.out rfl
                        have h2 := HKD.out
                        omega
                      go_wp2_with (go_at_call 14; refine (HJ.out _).mono ?_; rintro e w' ⟨rfl, rfl⟩)
                      go_roundg (i - (j + 1))
                      case measure => have := HK5.out; omega
                      case rel => exact ⟨j + 1, a', q', false, pl, pc, by go_num, by have := HK5.out; omega, rfl, rfl, rfl, rfl, by have := HA.out; have := HDQ.out; unfold Hid; rw [HP1.out]; omega, by have := HQ.out; have := HDQ.out; unfold Hid; rw [HQ1.out]; omega, hK7.out, HL1.out, hB7.out⟩
                    · by_cases hqn' : q' < nt
                      · have hd1 : decide ((q' : Int) < (nt : Int)) = true := by simp; omega
                        have hd2 : decide (q' < nt) = true := by simp; omega
                        obtain ⟨t, ht⟩ : ∃ t, (toksOf ins)[q']? = some t := ⟨_, List.getElem?_eq_getElem (by rw [← HNT.out]; exact hqn')⟩
                        obtain ⟨y0, _, _⟩ := HGC.out _ hB7.out q' _ ht
                        by_cases hdp : d < pads
                        · have ht2 := HTP.out d hdp
                          rw [← HQ.out, ht] at ht2
                          obtain rfl := Option.some.inj ht2
                          have y0' : wr.cell? ⟨Gg, q' * 3, none⟩ = some (.int .i64 0) := y0
                          clear y0 ht ht2
                          go_wp2_with (go_at_call 14; refine (HJ.out _).mono ?_; rintro e w' ⟨rfl, rfl⟩)
                          go_roundg (pads - (d + 1))
                          case measure => have := HKD.out; omega
                          case rel => exact ⟨d + 1, a' + 1, q' + 1, by have := HKD.out; omega, by go_num, by go_num, by have := HA.out; omega, by have := HQ.out; omega, hK7.out, hB7.out, hX7.out⟩
                        · have hdq : d = pads := by have := HKD.out; omega
                          have ht2 := HTN.out t (by rw [← hdq, ← HQ.out]; exact ht)
                          obtain ⟨t1, t2⟩ := t
                          simp only at ht2 y0
                          have he2 : ((t1 : Int) == 0) = false := by rw [beq_eq_false_iff_ne]; omega
                          have HDQ := Lib.hid hdq
                          clear ht hdq
                          go_wp2_with (go_at_call 14; refine (HJ.out _).mono ?_; rintro e w' ⟨rfl, rfl⟩)
                          go_roundg (i - (j + 1))
                          case measure => have := HK5.out; omega
                          case rel => exact ⟨j + 1, a', q', false, pl, pc, by go_num, by have := HK5.out; omega, rfl, rfl, rfl, rfl, by have := HA.out; have := HDQ.out; unfold Hid; rw [HP1.out]; omega, by have := HQ.out; have := HDQ.out; unfold Hid; rw [HQ1.out]; omega, hK7.out, HL1.out, hB7.out⟩
                      · have hd1 : decide ((q' : Int) < (nt : Int)) = false := by simp; omega
                        have hd2 : decide (q' < nt) = false := by simp; omega
                        have HDQ : Hid (d = pads) := by
                          unfold Hid
                          have h1 := HKD.out
                          have h2 := HQ.out
                          omega
                        go_wp2_with (go_at_call 14; refine (HJ.out _).mono ?_; rintro e w' ⟨rfl, rfl⟩)
                        go_roundg (i - (j + 1))
                        case measure => have := HK5.out; omega
                        case rel => exact ⟨j + 1, a', q', false, pl, pc, by go_num, by have := HK5.out; omega, rfl, rfl, rfl, rfl, by have := HA.out; have := HDQ.out; unfold Hid; rw [HP1.out]; omega, by have := HQ.out; have := HDQ.out; unfold Hid; rw [HQ1.out]; omega, hK7.out, HL1.out, hB7.out⟩
                ·
                  have HL1 : Hid (lastOf ins (j + 1) = if true then some (pl, pc) else none) := by unfold Hid; rw [HLS.out, if_pos rfl]; exact hlast.out
                  obtain ⟨e1, e2⟩ := HPK.out (pl, pc) HL1.out
                  simp only at e1 e2
                  go_wp2_with fail
                  go_quiet (fail)
                  go_wp2_with fail
                  obtain ⟨w6, hw6⟩ : ∃ w6, w6 = ((wr.alloc (.cells #[.int .i64 (op : Int), .int .u32 (arg : Int), .int .i32 0, .int .i32 col] 39)).drewN nq) := ⟨_, rfl⟩
                  rw [← hw6]
                  have hszw : PB ≤ wr.heap.size := by omega
                  have HK6 : Hid (Blk w6 PB 48 #[.int .i32 pl, .int .i32 pc]) := by rw [hw6]; exact ((hblk.out.alloc _).drewN _)
                  have HB6 : Hid (Below PB w4 w6) := by rw [hw6]; exact (below_dn (hbw5.out.alloc hszw _) nq)
                  have HX6 : Hid (Blk w6 xb 39 #[.int .i64 (op : Int), .int .u32 (arg : Int), .int .i32 0, .int .i32 col]) := by rw [hw6]; exact ((Blk.new_at wr _ _ HXB.out.symm).drewN nq)
                  obtain ⟨k0', k1', f0', f1'⟩ := blk_two HK6.out
                  obtain ⟨r0, r1⟩ := HPC.out _ HB6.out
                  have x0 : w6.cell? ⟨xb, 0, none⟩ = some (.int .i64 (op : Int)) := (HX6.out.cell 0).trans rfl
                  obtain ⟨y0, y1, y2⟩ := HGC.out _ HB6.out q _ HTF.out
                  rw [← HSZ.out] at y2
                  simp only at y0 y1
                  rw [← HXB.out]
                  clear hw6 k0 k1 f0 f1 s0 s1 s2 s3 g0 g1 g2
                  rw [e1] at r0
                  rw [e2] at r1
                  clear e1 e2
                  go_quiet (fail)
                  go_wp2_with fail

                  go_loopg [15, 16] pads (fun k av kv w7 => ∃ d a' q' : Nat, k + d = pads ∧ av = .int .i64 (a' : Int) ∧ kv = .int .i64 (q' : Int) ∧ a' = p + sz + d ∧ q' = q + 1 + d ∧ Hid (Blk w7 PB 48 #[.int .i32 pl, .int .i32 pc]) ∧ Hid (Below PB w4 w7) ∧ Hid (Blk w7 xb 39 #[.int .i64 (op : Int), .int .u32 (arg : Int), .int .i32 0, .int .i32 col]))
                  case atStart => exact ⟨0, p + sz, q + 1, by omega, by go_num, by go_num, by omega, by omega, HK6.out.drewN _, below_dn HB6.out _, HX6.out.drewN _⟩
                  case round =>
                    obtain ⟨d, a', q', hkd, rfl, rfl, ha', hq', hK7, hB7, hX7⟩ := hrel
                    have x0 : wr.cell? ⟨xb, 0, none⟩ = some (.int .i64 (op : Int)) := (hX7.out.cell 0).trans rfl
                    have ha1 : a' ≤ 1000 := by omega
                    have hq1 : q' ≤ 1000 := by omega
                    have HA := Lib.hid ha'
                    have HQ := Lib.hid hq'
                    have HKD := Lib.hid hkd
                    clear ha' hq' hkd
                    cases jb
                    · have HDQ : Hid (d = pads) := by
                        unfold Hid
                        have h1 := HJP.out rfl
                        have h2 := HKD.out
                        omega
                      go_wp2_with (go_at_call 14; refine (HJ.out _).mono ?_; rintro e w' ⟨rfl, rfl⟩)
                      go_roundg (i - (j + 1))
                      case measure => have := HK5.out; omega
                      case rel => exact ⟨j + 1, a', q', true, pl, pc, by go_num, by have := HK5.out; omega, rfl, rfl, rfl, rfl, by have := HA.out; have := HDQ.out; unfold Hid; rw [HP1.out]; omega, by have := HQ.out; have := HDQ.out; unfold Hid; rw [HQ1.out]; omega, hK7.out, HL1.out, hB7.out⟩
                    · by_cases hqn' : q' < nt
                      · have hd1 : decide ((q' : Int) < (nt : Int)) = true := by simp; omega
                        have hd2 : decide (q' < nt) = true := by simp; omega
                        obtain ⟨t, ht⟩ : ∃ t, (toksOf ins)[q']? = some t := ⟨_, List.getElem?_eq_getElem (by rw [← HNT.out]; exact hqn')⟩
                        obtain ⟨y0, _, _⟩ := HGC.out _ hB7.out q' _ ht
                        by_cases hdp : d < pads
                        · have ht2 := HTP.out d hdp
                          rw [← HQ.out, ht] at ht2
                          obtain rfl := Option.some.inj ht2
                          have y0' : wr.cell? ⟨Gg, q' * 3, none⟩ = some (.int .i64 0) := y0
                          clear y0 ht ht2
                          go_wp2_with (go_at_call 14; refine (HJ.out _).mono ?_; rintro e w' ⟨rfl, rfl⟩)
                          go_roundg (pads - (d + 1))
                          case measure => have := HKD.out; omega
                          case rel => exact ⟨d + 1, a' + 1, q' + 1, by have := HKD.out; omega, by go_num, by go_num, by have := HA.out; omega, by have := HQ.out; omega, hK7.out, hB7.out, hX7.out⟩
                        · have hdq : d = pads := by have := HKD.out; omega
                          have ht2 := HTN.out t (by rw [← hdq, ← HQ.out]; exact ht)
                          obtain ⟨t1, t2⟩ := t
                          simp only at ht2 y0
                          have he2 : ((t1 : Int) == 0) = false := by rw [beq_eq_false_iff_ne]; omega
                          have HDQ := Lib.hid hdq
                          clear ht hdq
                          go_wp2_with (go_at_call 14; refine (HJ.out _).mono ?_; rintro e w' ⟨rfl, rfl⟩)
                          go_roundg (i - (j + 1))
                          case measure => have := HK5.out; omega
                          case rel => exact ⟨j + 1, a', q', true, pl, pc, by go_num, by have := HK5.out; omega, rfl, rfl, rfl, rfl, by have := HA.out; have := HDQ.out; unfold Hid; rw [HP1.out]; omega, by have := HQ.out; have := HDQ.out; unfold Hid; rw [HQ1.out]; omega, hK7.out, HL1.out, hB7.out⟩
                      · have hd1 : decide ((q' : Int) < (nt : Int)) = false := by simp; omega
                        have hd2 : decide (q' < nt) = false := by simp; omega
                        have HDQ : Hid (d = pads) := by
                          unfold Hid
                          have h1 := HKD.out
                          have h2 := HQ.out
                          omega
                        go_wp2_with (go_at_call 14; refine (HJ.out _).mono ?_; rintro e w' ⟨rfl, rfl⟩)
                        go_roundg (i - (j + 1))
                        case measure => have := HK5.out; omega
                        case rel => exact ⟨j + 1, a', q', true, pl, pc, by go_num, by have := HK5.out; omega, rfl, rfl, rfl, rfl, by have := HA.out; have := HDQ.out; unfold Hid; rw [HP1.out]; omega, by have := HQ.out; have := HDQ.out; unfold Hid; rw [HQ1.out]; omega, hK7.out, HL1.out, hB7.out⟩
              ·
                have hb0 : (lin != 0) = true := by rw [bne_iff_ne]; exact h0
                have hb0' : (lin == 0) = false := by rw [beq_eq_false_iff_ne]; exact h0
                have HL1 : Hid (lastOf ins (j + 1) = if true then some (lin, col) else none) := by unfold Hid; rw [HLS.out, if_neg h0]; rfl
                obtain ⟨e1, e2⟩ := HPK.out (lin, col) HL1.out
                simp only at e1 e2
                clear h0
                go_wp2_with fail
                go_quiet (fail)
                go_wp2_with fail
                obtain ⟨w6, hw6⟩ : ∃ w6, w6 = ((((wr.alloc (.cells #[.int .i64 (op : Int), .int .u32 (arg : Int), .int .i32 lin, .int .i32 col] 39)).drewN nq).setCell ⟨PB, 0, none⟩ (.int .i32 lin)).setCell ⟨PB, 1, none⟩ (.int .i32 col)) := ⟨_, rfl⟩
                rw [← hw6]
                have hszw : PB ≤ wr.heap.size := by omega
                have HK6 : Hid (Blk w6 PB 48 #[.int .i32 lin, .int .i32 col]) := by rw [hw6]; exact ((((hblk.out.alloc _).drewN _).put 0 (.int .i32 lin)).put 1 (.int .i32 col))
                have HB6 : Hid (Below PB w4 w6) := by rw [hw6]; exact ((below_dn (hbw5.out.alloc hszw _) nq).setCell (p := ⟨PB, 0, none⟩) (Nat.le_refl _) _).setCell (p := ⟨PB, 1, none⟩) (Nat.le_refl _) _
                have HX6 : Hid (Blk w6 xb 39 #[.int .i64 (op : Int), .int .u32 (arg : Int), .int .i32 lin, .int .i32 col]) := by rw [hw6]; exact ((((Blk.new_at wr _ _ HXB.out.symm).drewN nq).far (p := ⟨PB, 0, none⟩) (by simp; omega) _).far (p := ⟨PB, 1, none⟩) (by simp; omega) _)
                obtain ⟨k0', k1', f0', f1'⟩ := blk_two HK6.out
                obtain ⟨r0, r1⟩ := HPC.out _ HB6.out
                have x0 : w6.cell? ⟨xb, 0, none⟩ = some (.int .i64 (op : Int)) := (HX6.out.cell 0).trans rfl
                obtain ⟨y0, y1, y2⟩ := HGC.out _ HB6.out q _ HTF.out
                rw [← HSZ.out] at y2
                simp only at y0 y1
                rw [← HXB.out]
                clear hw6 k0 k1 f0 f1 s0 s1 s2 s3 g0 g1 g2
                rw [e1] at r0
                rw [e2] at r1
                clear e1 e2
                go_quiet (fail)
                go_wp2_with fail

                go_loopg [15, 16] pads (fun k av kv w7 => ∃ d a' q' : Nat, k + d = pads ∧ av = .int .i64 (a' : Int) ∧ kv = .int .i64 (q' : Int) ∧ a' = p + sz + d ∧ q' = q + 1 + d ∧ Hid (Blk w7 PB 48 #[.int .i32 lin, .int .i32 col]) ∧ Hid (Below PB w4 w7) ∧ Hid (Blk w7 xb 39 #[.int .i64 (op : Int), .int .u32 (arg : Int), .int .i32 lin, .int .i32 col]))
                case atStart => exact ⟨0, p + sz, q + 1, by omega, by go_num, by go_num, by omega, by omega, HK6.out.drewN _, below_dn HB6.out _, HX6.out.drewN _⟩
                case round =>
                  obtain ⟨d, a', q', hkd, rfl, rfl, ha', hq', hK7, hB7, hX7⟩ := hrel
                  have x0 : wr.cell? ⟨xb, 0, none⟩ = some (.int .i64 (op : Int)) := (hX7.out.cell 0).trans rfl
                  have ha1 : a' ≤ 1000 := by omega
                  have hq1 : q' ≤ 1000 := by omega
                  have HA := Lib.hid ha'
                  have HQ := Lib.hid hq'
                  have HKD := Lib.hid hkd
                  clear ha' hq' hkd
                  cases jb
                  · have HDQ : Hid (d = pads) := by
                      unfold Hid
                      have h1 := HJP.out rfl
                      have h2 := HKD.out
                      omega
                    go_wp2_with (go_at_call 14; refine (HJ.out _).mono ?_; rintro e w' ⟨rfl, rfl⟩)
                    go_roundg (i - (j + 1))
                    case measure => have := HK5.out; omega
                    case rel => exact ⟨j + 1, a', q', true, lin, col, by go_num, by have := HK5.out; omega, rfl, rfl, rfl, rfl, by have := HA.out; have := HDQ.out; unfold Hid; rw [HP1.out]; omega, by have := HQ.out; have := HDQ.out; unfold Hid; rw [HQ1.out]; omega, hK7.out, HL1.out, hB7.out⟩
                  · by_cases hqn' : q' < nt
                    · have hd1 : decide ((q' : Int) < (nt : Int)) = true := by simp; omega
                      have hd2 : decide (q' < nt) = true := by simp; omega
                      obtain ⟨t, ht⟩ : ∃ t, (toksOf ins)[q']? = some t := ⟨_, List.getElem?_eq_getElem (by rw [← HNT.out]; exact hqn')⟩
                      obtain ⟨y0, _, _⟩ := HGC.out _ hB7.out q' _ ht
                      by_cases hdp : d < pads
                      · have ht2 := HTP.out d hdp
                        rw [← HQ.out, ht] at ht2
                        obtain rfl := Option.some.inj ht2
                        have y0' : wr.cell? ⟨Gg, q' * 3, none⟩ = some (.int .i64 0) := y0
                        clear y0 ht ht2
                        go_wp2_with (go_at_call 14; refine (HJ.out _).mono ?_; rintro e w' ⟨rfl, rfl⟩)
                        go_roundg (pads - (d + 1))
                        case measure => have := HKD.out; omega
                        case rel => exact ⟨d + 1, a' + 1, q' + 1, by have := HKD.out; omega, by go_num, by go_num, by have := HA.out; omega, by have := HQ.out; omega, hK7.out, hB7.out, hX7.out⟩
                      · have hdq : d = pads := by have := HKD.out; omega
                        have ht2 := HTN.out t (by rw [← hdq, ← HQ.out]; exact ht)
                        obtain ⟨t1, t2⟩ := t
                        simp only at ht2 y0
                        have he2 : ((t1 : Int) == 0) = false := by rw [beq_eq_false_iff_ne]; omega
                        have HDQ := Lib.hid hdq
                        clear ht hdq
                        go_wp2_with (go_at_call 14; refine (HJ.out _).mono ?_; rintro e w' ⟨rfl, rfl⟩)
                        go_roundg (i - (j + 1))
                        case measure => have := HK5.out; omega
                        case rel => exact ⟨j + 1, a', q', true, lin, col, by go_num, by have := HK5.out; omega, rfl, rfl, rfl, rfl, by have := HA.out; have := HDQ.out; unfold Hid; rw [HP1.out]; omega, by have := HQ.out; have := HDQ.out; unfold Hid; rw [HQ1.out]; omega, hK7.out, HL1.out, hB7.out⟩
                    · have hd1 : decide ((q' : Int) < (nt : Int)) = false := by simp; omega
                      have hd2 : decide (q' < nt) = false := by simp; omega
                      have HDQ : Hid (d = pads) := by
                        unfold Hid
                        have h1 := HKD.out
                        have h2 := HQ.out
                        omega
                      go_wp2_with (go_at_call 14; refine (HJ.out _).mono ?_; rintro e w' ⟨rfl, rfl⟩)
                      go_roundg (i - (j + 1))
                      case measure => have := HK5.out; omega
                      case rel => exact ⟨j + 1, a', q', true, lin, col, by go_num, by have := HK5.out; omega, rfl, rfl, rfl, rfl, by have := HA.out; have := HDQ.out; unfold Hid; rw [HP1.out]; omega, by have := HQ.out; have := HDQ.out; unfold Hid; rw [HQ1.out]; omega, hK7.out, HL1.out, hB7.out⟩
            · obtain rfl : j = i := by have := HK5.out; omega
              have hqe : q = nt := by rw [hq.out, HNT.out, List.take_of_length_le (by rw [HIL.out]; exact Nat.le_refl _)]
              have he9 : ((q : Int) == (nt : Int)) = true := by rw [hqe]; exact beq_self_eq_true _
              have HB9 : Hid (Below w.heap.size w wr) := HB4.out.trans (hbw5.out.mono (by have := HB4.out.size; have := HPB.out; omega))
              clear hqe
              go_wp2_with fail
              go_ret
              exact ⟨rfl, HB9.out⟩
end Go.Proofs.Ytkddmiamdpbgiaa
