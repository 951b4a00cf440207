/- The reference reads instructions. -/
import Derived.Test.YtkddmiamdpbgiaaPlaced
import Derived.Test.YtkddmiamdpbgiaaTok
namespace Go.Proofs.Ytkddmiamdpbgiaa
open Go.RowKit
theorem Try.infoIns : (Try.prog.info? 96).map (fun i => (i.zero, i.size, i.bytes)) = some (some (.agg #[.int .i64 0, .int .i64 0, .int .i64 0, .int .i64 0]), 4, 32) := by kernel_rfl
theorem Try.infoInt : (Try.prog.info? 3).map (fun i => (i.zero, i.size, i.bytes)) = some (some (.int .i64 0), 1, 8) := by kernel_rfl
/-- The cells of what was read: operation, operand, place, next place. -/
def ciCells (ts : List (Nat × Nat)) : Nat → List Value
  | 0 => []
  | k + 1 => ciCells ts k ++ (match ts[k]? with
    | some t => [Value.int .i64 (t.1 : Int), .int .i64 (t.2 : Int), .int .i64 (tokAt ts k : Int), .int .i64 (tokAt ts (k + 1) : Int)]
    | none => [])
theorem tok_cell {w : World} {B g m c : Nat} {ts : List (Nat × Nat)} (h : OB w B (.slice (some ⟨g, 0, none⟩) m c) (readOf ts)) (t k : Nat) (ht : t < ts.length) (hk : k < (tokBytes (ts[t]'ht)).length) :
    w.cell? ⟨g, tokAt ts t + k, none⟩ = some (.int .u8 (((tokBytes (ts[t]'ht))[k]'hk : Nat) : Int)) := by
  have h1 := read_at ts t k ht hk
  obtain ⟨h2, h3⟩ := List.getElem?_eq_some_iff.1 h1
  have hc := h.1.cells (g := g) (by simp [Value.ownBlock]) (tokAt ts t + k) (.int .u8 (((readOf ts)[tokAt ts t + k]'h2 : Nat) : Int)) (by simp [bcells, h2])
  rw [Addr.add_lit] at hc
  rw [h3] at hc
  simpa using hc
theorem and127u (b : Nat) (h : b < 256) : bits .and .u8 (b : Int) 127 = ((b % 128 : Nat) : Int) := by
  have h1 : ∀ k : Fin 256, bits .and .u8 (k.val : Int) 127 = ((k.val % 128 : Nat) : Int) := by decide +kernel
  exact h1 ⟨b, h⟩
theorem own_form {w : World} {B n size : Nat} {e : TypeId} {v : Value} {xs : List Value} (h : w.ownsRow B e size v n xs) : ∃ a c, v = .slice a n c := by
  rcases h.2 with ⟨rfl, h0⟩ | ⟨g, cap, cur, rfl, hb, _⟩
  · exact ⟨none, 0, by rw [h0]⟩
  · exact ⟨_, cap, rfl⟩
/-- An instruction is being read. -/
structure RS (w W : World) (A X j : Nat) (vl : Value) (t : Nat) (xs : List Value) (op arg p nx : Nat) : Prop where
  x : Blk W X 96 #[.int .i64 (op : Int), .int .i64 (arg : Int), .int .i64 (p : Int), .int .i64 (nx : Int)]
  row : W.ownsRow w.heap.size 96 4 vl t xs
  ne : ∀ g, vl.ownBlock = some g → g ≠ X
  arr : ∃ cur, Blk W A 3 cur ∧ j ≤ cur.size
  below : Below w.heap.size w W
  hX : w.heap.size ≤ X
theorem rs_begin {w w2 : World} {A j t p op : Nat} {vl : Value} {xs : List Value} {cur : Array Value} (hrow : w2.ownsRow w.heap.size 96 4 vl t xs) (hA : Blk w2 A 3 cur) (hj : j ≤ cur.size) (hwA : w.heap.size ≤ A) (hb : Below w.heap.size w w2) (u : Value) :
    RS w ((w2.setCell ⟨A, p, none⟩ u).alloc (.cells #[.int .i64 (op : Int), .int .i64 0, .int .i64 (p : Int), .int .i64 0] 96)) A w2.heap.size j vl t xs op 0 p 0 := by
  have k := keeps_put hA p u
  have hb2 := hb.setCell (p := ⟨A, p, none⟩) hwA u
  exact ⟨Blk.new_at _ _ _ (by simp), (k.own hrow (by decide)).alloc _, fun g hg e => by have := (hrow.lt g hg).2; omega, ⟨_, (hA.put p u).alloc _, by simpa using hj⟩, hb2.alloc hb2.size _, hb.size⟩
theorem RS.set1 {w W : World} {A X j t op arg p nx : Nat} {vl : Value} {xs : List Value} (h : RS w W A X j vl t xs op arg p nx) (hAX : A ≠ X) (arg' : Nat) : RS w (W.setCell ⟨X, 1, none⟩ (.int .i64 (arg' : Int))) A X j vl t xs op arg' p nx := by
  have hO : Only (· = X) W (W.setCell ⟨X, 1, none⟩ (.int .i64 (arg' : Int))) := (Only.refl (· = X) W).setCell (p := ⟨X, 1, none⟩) (.inl rfl) _
  obtain ⟨cur, a1, a2⟩ := h.arr
  exact ⟨by simpa using h.x.put 1 (.int .i64 (arg' : Int)), own_only h.row hO h.ne, h.ne, ⟨cur, a1.only hO hAX, a2⟩, h.below.setCell (p := ⟨X, 1, none⟩) h.hX _, h.hX⟩
theorem RS.set3 {w W : World} {A X j t op arg p nx : Nat} {vl : Value} {xs : List Value} (h : RS w W A X j vl t xs op arg p nx) (hAX : A ≠ X) (nx' : Nat) : RS w (W.setCell ⟨X, 3, none⟩ (.int .i64 (nx' : Int))) A X j vl t xs op arg p nx' := by
  have hO : Only (· = X) W (W.setCell ⟨X, 3, none⟩ (.int .i64 (nx' : Int))) := (Only.refl (· = X) W).setCell (p := ⟨X, 3, none⟩) (.inl rfl) _
  obtain ⟨cur, a1, a2⟩ := h.arr
  exact ⟨by simpa using h.x.put 3 (.int .i64 (nx' : Int)), own_only h.row hO h.ne, h.ne, ⟨cur, a1.only hO hAX, a2⟩, h.below.setCell (p := ⟨X, 3, none⟩) h.hX _, h.hX⟩
theorem RS.drew {w W : World} {A X j t op arg p nx : Nat} {vl : Value} {xs : List Value} (h : RS w W A X j vl t xs op arg p nx) : RS w W.drew A X j vl t xs op arg p nx := ⟨h.x, h.row, h.ne, h.arr, h.below.drew, h.hX⟩
theorem RS.app {w W w' : World} {A X j t op arg p nx : Nat} {vl v' : Value} {xs us : List Value} (h : RS w W A X j vl t xs op arg p nx)
    (ho : w'.ownsRow w.heap.size 96 4 v' (t + 1) (xs ++ us)) (hb : Below w.heap.size W w') (hg : W.grownBy w' vl.ownBlock) :
    w'.ownsRow w.heap.size 96 4 v' (t + 1) (xs ++ us) ∧ (∃ cur, Blk w' A 3 cur ∧ j ≤ cur.size) ∧ Below w.heap.size w w' := by
  have k := KeepsT.of_grown h.row hg
  obtain ⟨cur, a1, a2⟩ := h.arr
  exact ⟨ho, ⟨cur, k.blk a1 (by decide), a2⟩, h.below.trans hb⟩
theorem acc_next (arg kk acc bt : Nat) (hacc : acc = arg % 128 ^ kk) (hbt : bt = (if arg / 128 ^ kk < 128 then arg / 128 ^ kk else arg / 128 ^ kk % 128 + 128)) : acc + bt % 128 * 128 ^ kk = arg % 128 ^ (kk + 1) := by
  have h : bt % 128 = arg / 128 ^ kk % 128 := by
    rw [hbt]
    split <;> omega
  rw [h, Nat.mod_pow_succ, hacc, Nat.mul_comm]
theorem or64 (i : Nat) (y x : Int) (hy0 : 0 ≤ y) (hy : y < 2 ^ i) (hy1 : y < 1000000000000) (hx0 : 0 ≤ x) (hx : x % 2 ^ i = 0) (hx1 : x < 1000000000000) : bits .or .i64 y x = y + x :=
  bits_join_low .i64 62 (by decide) (fun n h0 h1 => by rw [IntKind.wrap_i64]; omega) i y x hy0 hy (by omega) hx0 hx (by omega)
theorem or_0 (acc bt : Nat) (h : acc < 128 ^ 0) : bits .or .i64 (acc : Int) ((bt : Int) % 128) = ((acc + bt % 128 * 128 ^ 0 : Nat) : Int) := by
  simp only [Nat.pow_zero] at h ⊢
  rw [or64 0 _ _ (by omega) (by omega) (by omega) (by omega) (by omega) (by omega)]; omega
theorem or_1 (acc bt : Nat) (h : acc < 128 ^ 1) : bits .or .i64 (acc : Int) ((bt : Int) % 128 * 128) = ((acc + bt % 128 * 128 ^ 1 : Nat) : Int) := by
  simp only [Nat.pow_one] at h ⊢
  rw [or64 7 _ _ (by omega) (by omega) (by omega) (by omega) (by omega) (by omega)]; omega
theorem or_2 (acc bt : Nat) (h : acc < 128 ^ 2) : bits .or .i64 (acc : Int) ((bt : Int) % 128 * 16384) = ((acc + bt % 128 * 128 ^ 2 : Nat) : Int) := by
  simp only [Nat.reducePow] at h ⊢
  rw [or64 14 _ _ (by omega) (by omega) (by omega) (by omega) (by omega) (by omega)]; omega
theorem or_3 (acc bt : Nat) (h : acc < 128 ^ 3) : bits .or .i64 (acc : Int) ((bt : Int) % 128 * 2097152) = ((acc + bt % 128 * 128 ^ 3 : Nat) : Int) := by
  simp only [Nat.reducePow] at h ⊢
  rw [or64 21 _ _ (by omega) (by omega) (by omega) (by omega) (by omega) (by omega)]; omega
theorem ci_next (ts : List (Nat × Nat)) (t : Nat) (h : t < ts.length) : ciCells ts (t + 1) = ciCells ts t ++ [Value.int .i64 ((ts[t]'h).1 : Int), .int .i64 ((ts[t]'h).2 : Int), .int .i64 (tokAt ts t : Int), .int .i64 (tokAt ts (t + 1) : Int)] := by
  simp [ciCells, List.getElem?_eq_getElem h]
def ReadPost (ts : List (Nat × Nat)) (w : World) (e : Ending) (w' : World) : Prop :=
  ∃ vl va, e = .returned (.tuple #[vl, va, .bool true]) ∧ w'.ownsRow w.heap.size 96 4 vl ts.length (ciCells ts ts.length) ∧ Below w.heap.size w w'
set_option maxRecDepth 100000 in
set_option maxHeartbeats 40000000 in
theorem code_read (B g c m : Nat) (ts : List (Nat × Nat)) (w : World) (hb : OB w B (.slice (some ⟨g, 0, none⟩) m c) (readOf ts)) (hm : m = (readOf ts).length) (hm2 : m ≤ 2000) (hts : ∀ t ∈ ts, t.1 ≤ 67 ∧ t.2 < 268435456 ∧ (t.1 < 43 → t.2 = 0)) :
    Calls Try.prog 27 #[.slice (some ⟨g, 0, none⟩) m c] w (ReadPost ts w) := by
  obtain ⟨i0, hi0, hz0, hz1, hz2⟩ := info_parts Try.infoIns
  obtain ⟨i1, hi1, hy0, hy1, hy2⟩ := info_parts Try.infoInt
  have HB := Lib.hid hb
  have HM := Lib.hid hm
  have HTS := Lib.hid hts
  have HGB : Hid (g < w.heap.size) := (hb.1.lt g (by simp [Value.ownBlock])).2
  clear hb hm hts
  go_enter Try.func27, Try.ntmps27
  go_wp2_with fail
  go_loopg [3, 10] m (fun k va jv wr => ∃ (j : Nat) (xs : List Value), jv = .int .i64 (j : Int) ∧ k + j = m ∧ xs.length = j ∧ Hid (wr.ownsRow w.heap.size 3 1 va j xs) ∧ Hid (Below w.heap.size w wr))
  case atStart => exact ⟨0, [], rfl, by omega, rfl, World.ownsRow_nil _ _ _ _, Below.refl _ _⟩
  case round =>
    obtain ⟨j, xs, rfl, hk, hxs, hrow, hbw⟩ := hrel
    have HK := Lib.hid hk
    have HXS := Lib.hid hxs
    clear hk hxs
    by_cases hjm : j < m
    · have hd : decide ((j : Int) < (m : Int)) = true := by simp; omega
      have hsz := hbw.out.size
      go_wp2_with (at_builtin; refine wpList_append_one rfl (.tmp 12) (.tmp 13) 76 rfl wr w.heap.size 3 i1 _ 8 Try.underlying76 hi1 hy0 hy1 hy2 rfl _ j xs hrow.out rfl (.int .i64 (-1)) rfl rfl rfl (by unfold maxLen; omega) (by omega) hsz ?_; intro v2 w2 hown2 hb2 hg2)
      have HO2 := Lib.hid hown2
      have HB2 := Lib.hid (hbw.out.trans hb2)
      clear hown2 hb2 hg2
      go_wp2
      go_roundg (m - (j + 1))
      case measure => have := HK.out; omega
      case rel => exact ⟨j + 1, _, by go_num, by have := HK.out; omega, by rw [List.length_append, HXS.out]; rfl, HO2.out, HB2.out⟩
    · obtain rfl : j = m := by have := HK.out; omega
      rcases hrow.out.2 with ⟨rfl, h0⟩ | ⟨A, ca, cur, rfl, hA1, hA2, hA3, hA4, hA5, _⟩
      · subst h0
        have HBW := Lib.hid hbw.out
        have hts0 : ts = [] := List.eq_nil_of_length_eq_zero (by have := toks_len_le ts; have := HM.out; omega)
        have HT0 := Lib.hid hts0
        clear hts0 hrow hbw
        go_wp2_with fail
        refine wp_loop_rounds 1 ?_
        rw [rounds_succ]
        go_wp2
        go_ret3
        exact ⟨_, _, rfl, by rw [HT0.out]; exact World.ownsRow_nil _ _ _ _, HBW.out⟩
      · have HA : Hid (Blk wr A 3 cur ∧ j ≤ cur.size ∧ w.heap.size ≤ A) := ⟨hA2, by omega, hA1⟩
        clear hA1 hA2 hA3 hA4 hA5
        have hOB := Lib.hid (HB.out.below hbw.out)
        have HBW := Lib.hid hbw.out
        clear hrow hbw
        have HT0 : Hid (tokAt ts 0 = 0) := rfl
        go_wp2_with fail
        go_loopg [2, 3, 4, 5, 6, 7] ts.length (fun k vl va fv iv xv kv w2 => ∃ t p : Nat, k + t = ts.length ∧ iv = .int .i64 (p : Int) ∧ Hid (p = tokAt ts t) ∧ va = .slice (some ⟨A, 0, none⟩) j ca ∧ fv = .bool false ∧ Hid (w2.ownsRow w.heap.size 96 4 vl t (ciCells ts t)) ∧ Hid (∃ cur, Blk w2 A 3 cur ∧ j ≤ cur.size) ∧ Hid (Below w.heap.size w w2) ∧ p ≤ j)
        case atStart => exact ⟨0, 0, by omega, rfl, rfl, rfl, rfl, World.ownsRow_nil _ _ _ _, ⟨cur, HA.out.1, HA.out.2.1⟩, HBW.out, Nat.zero_le _⟩
        case round =>
          obtain ⟨t, p, hk, rfl, hp, rfl, rfl, hrow, hat, hbw, hpj⟩ := hrel
          have HK2 := Lib.hid hk
          clear hk
          by_cases htl : t < ts.length
          · have hpm : p < j := by rw [hp.out, HM.out]; exact tokAt_lt ts t htl
            have hd : decide ((p : Int) < (j : Int)) = true := by simp; omega
            obtain ⟨cur2, hA, hAs⟩ := hat.out
            have hAl := hA.lt
            have htk := HTS.out _ (List.getElem_mem htl)
            have hc0 := tok_cell (HB.out.below hbw.out) t 0 htl (tokBytes_pos _)
            obtain ⟨tk, htke⟩ : ∃ tk, tk = ts[t]'htl := ⟨_, rfl⟩
            rw [← hp.out, Nat.add_zero] at hc0
            have HCI := Lib.hid (ci_next ts t htl)
            have HTA := Lib.hid (tokAt_succ ts t htl)
            have HCK : Hid (∀ k (hk : k < (tokBytes tk).length), wr.cell? ⟨g, p + k, none⟩ = some (.int .u8 (((tokBytes tk)[k]'hk : Nat) : Int))) := fun k hk => by
              subst htke
              rw [hp.out]
              exact tok_cell (HB.out.below hbw.out) t k htl hk
            rw [← htke] at htk HCI HTA
            simp only [← htke] at hc0
            obtain ⟨op, arg⟩ := tk
            have hc0' : wr.cell? ⟨g, p, none⟩ = some (.int .u8 (op : Int)) := hc0
            simp only at htk
            obtain ⟨hop, harg, harg0⟩ := htk
            obtain ⟨x0, hx0⟩ : ∃ x0, cur2[p]? = some x0 := ⟨_, Array.getElem?_eq_getElem (by omega)⟩
            have ha0 := hA.cell p
            rw [hx0] at ha0
            have hz0 := hA.frozen p
            have HRB : Hid (∀ u, RS w ((wr.setCell ⟨A, p, none⟩ u).alloc (.cells #[.int .i64 (op : Int), .int .i64 0, .int .i64 (p : Int), .int .i64 0] 96)) A wr.heap.size j u2 t (ciCells ts t) op 0 p 0) := fun u => rs_begin hrow.out hA hAs HA.out.2.2 hbw.out u
            have HOBC : Hid (∀ W, Below w.heap.size w W → ∀ k (hk : k < (tokBytes (op, arg)).length), W.cell? ⟨g, p + k, none⟩ = some (.int .u8 (((tokBytes (op, arg))[k]'hk : Nat) : Int))) := fun W hW k hk => by
              have h1 := tok_cell (HB.out.below hW) t k htl (by rw [← htke]; exact hk)
              rw [← hp.out] at h1
              simp only [← htke] at h1
              exact h1
            obtain ⟨al, cl, hvl⟩ := own_form hrow.out
            subst hvl
            have h67 : decide ((67 : Int) < (op : Int)) = false := by simp; omega
            have h67' : decide (67 < op) = false := by simp; omega
            have HARG0 := Lib.hid harg0
            clear hc0 HCK hx0 htke hA hAs hat hrow harg0
            have htm : t ≤ j := by rw [HM.out]; have := toks_len_le ts; omega
            by_cases h43 : 43 ≤ op
            · have hd1 : decide (43 ≤ op) = true := by simp; omega
              have hd2 : decide ((43 : Int) ≤ (op : Int)) = true := by simp; omega
              go_wp2_with fail
              obtain ⟨X, hX⟩ : ∃ X, X = wr.heap.size := ⟨_, rfl⟩
              have hAX : A ≠ X := by omega
              have HR4 := Lib.hid (HRB.out (.int .i64 (t : Int)))
              rw [← hX] at HR4 ⊢
              obtain ⟨W4, hW4⟩ : ∃ W4, W4 = (wr.setCell ⟨A, p, none⟩ (.int .i64 (t : Int))).alloc (.cells #[.int .i64 (op : Int), .int .i64 0, .int .i64 (p : Int), .int .i64 0] 96) := ⟨_, rfl⟩
              rw [← hW4] at HR4 ⊢
              clear hW4 hX hc0' ha0 hz0 HRB
              obtain ⟨v, hv⟩ : ∃ v, v = (vints arg).length := ⟨_, rfl⟩
              have hv4 : v ≤ 4 := by rw [hv]; exact vints4 arg harg
              have hv1 : 1 ≤ v := by
                rw [hv]
                by_cases h : arg < 128
                · rw [vints_small h]; simp
                · rw [vints_big (by omega)]; simp
              have HTBE : Hid (tokBytes (op, arg) = op :: vints arg) := by unfold Hid tokBytes; rw [if_pos (by simpa using h43)]
              have HV := Lib.hid hv
              obtain ⟨q0, hq0⟩ : ∃ q : Nat, (p : Int) + 1 = (q : Int) := ⟨p + 1, by omega⟩
              have HQ0 := Lib.hid (show q0 = p + 1 by omega)
              rw [hq0]
              clear h43 hv hq0
              go_loopg [2, 3, 4, 5, 7] v (fun k r2 r3 r4 iv kv w5 => ∃ kk acc q : Nat, k + kk = v ∧ kk < v ∧ r2 = .slice al t cl ∧ r3 = .slice (some ⟨A, 0, none⟩) j ca ∧ r4 = .bool false ∧ iv = .int .i64 (q : Int) ∧ kv = .int .i64 (kk : Int) ∧ Hid (q = p + 1 + kk) ∧ Hid (acc = arg % 128 ^ kk) ∧ Hid (RS w w5 A X j (.slice al t cl) t (ciCells ts t) op acc p 0))
              case atStart => exact ⟨0, 0, q0, by omega, by omega, rfl, rfl, rfl, rfl, rfl, by have := HQ0.out; unfold Hid; omega, by simp [Hid, Nat.mod_one], HR4.out⟩
              case round =>
                obtain ⟨kk, acc, q, hkv, hkk, rfl, rfl, rfl, rfl, rfl, hq, hacc, hrs⟩ := hrel
                have HKV := Lib.hid hkv
                clear hkv
                have hkl : kk < (vints arg).length := by rw [← HV.out]; exact hkk
                obtain ⟨bt, hbt⟩ : ∃ bt, bt = (vints arg)[kk]'hkl := ⟨_, rfl⟩
                have hbc : wr.cell? ⟨g, q, none⟩ = some (.int .u8 (bt : Int)) := by
                  have h1 := HOBC.out wr hrs.out.below (1 + kk) (by rw [HTBE.out]; simp; omega)
                  rw [hq.out, Nat.add_assoc, h1, hbt]
                  have h2 : (tokBytes (op, arg))[1 + kk]'(by rw [HTBE.out]; simp; omega) = (vints arg)[kk]'hkl := by simp only [HTBE.out, Nat.add_comm 1 kk, List.getElem_cons_succ]
                  rw [h2]
                have hb256 : bt < 256 := by rw [hbt]; exact vints_lt arg _ (List.getElem_mem hkl)
                have hand := and127u bt hb256
                have hqj : q < j := by
                  have h1 := hq.out
                  have h2 := HTA.out
                  rw [HTBE.out, List.length_cons, ← HV.out, ← hp.out] at h2
                  have h3 := tokAt_le ts (t + 1)
                  have h4 := HM.out
                  omega
                have he1 : ((q : Int) == (j : Int)) = false := by rw [beq_eq_false_iff_ne]; omega
                have he2 : ((kk : Int) == 4) = false := by rw [beq_eq_false_iff_ne]; omega
                obtain ⟨x0', x1', x2', x3'⟩ := blk4 hrs.out.x
                have z1 := hrs.out.x.frozen 1
                have HBT : Hid (bt = (if arg / 128 ^ kk < 128 then arg / 128 ^ kk else arg / 128 ^ kk % 128 + 128)) := by unfold Hid; rw [hbt]; exact vints_at kk arg hkl
                have HVE : Hid (kk + 1 = v ↔ arg / 128 ^ kk < 128) := by unfold Hid; rw [HV.out]; exact vints_end kk arg hkl
                have HBC := Lib.hid hbc
                clear hbt hkl
                have hcase : kk = 0 ∨ kk = 1 ∨ kk = 2 ∨ kk = 3 := by omega
                rcases hcase with rfl | rfl | rfl | rfl
                · skip
                  obtain ⟨acc2, hacc2⟩ : ∃ acc2, acc2 = acc + bt % 128 * 128 ^ 0 := ⟨_, rfl⟩
                  have hor : bits .or .i64 (acc : Int) ((bt : Int) % 128) = (acc2 : Int) := by rw [hacc2]; exact or_0 acc bt (by rw [hacc.out]; exact Nat.mod_lt _ (Nat.pow_pos (by omega)))
                  have HA2 : Hid (acc2 = arg % 128 ^ (0 + 1)) := by rw [hacc2]; exact acc_next arg 0 acc bt hacc.out HBT.out
                  have HRS2 := Lib.hid ((hrs.out.set1 hAX acc2).drew)
                  clear hacc2
                  go_wp2_with fail
                  go_region
                  obtain ⟨W6, hW6⟩ : ∃ W6, W6 = (wr.setCell ⟨X, 1, none⟩ (.int .i64 (acc2 : Int))).drew := ⟨_, rfl⟩
                  rw [← hW6] at HRS2 ⊢
                  clear hbc x0' x1' x2' x3' z1 hor hand
                  have hbc : W6.cell? ⟨g, q, none⟩ = some (.int .u8 (bt : Int)) := by
                    rw [hW6]
                    exact (((hrs.out.below.setCell (p := ⟨X, 1, none⟩) hrs.out.hX _).drew).cell (p := ⟨g, q, none⟩) HGB.out).trans (((hrs.out.below).cell (p := ⟨g, q, none⟩) HGB.out).symm.trans HBC.out)
                  clear hW6
                  obtain ⟨x0', x1', x2', x3'⟩ := blk4 HRS2.out.x
                  have z3 := HRS2.out.x.frozen 3
                  obtain ⟨q1, hq1⟩ : ∃ q1 : Nat, (q : Int) + 1 = (q1 : Int) := ⟨q + 1, by omega⟩
                  have hq2 : (q1 : Int) - 1 = (q : Int) := by omega
                  have HQ1 := Lib.hid (show q1 = q + 1 by omega)
                  by_cases hlast : 0 + 1 = v
                  · have hb1 : decide ((bt : Int) < 128) = true := by have h1 := HVE.out.1 hlast; have h2 := HBT.out; rw [if_pos h1] at h2; simp; omega
                    have hb2 : decide (bt < 128) = true := by simp at hb1 ⊢; omega
                    have HLAST := Lib.hid hlast
                    have HAE : Hid (acc2 = arg) := by
                      unfold Hid
                      rw [HA2.out]
                      have h1 := HVE.out.1 hlast
                      refine Nat.mod_eq_of_lt ?_
                      rw [Nat.pow_succ]
                      exact (Nat.div_lt_iff_lt_mul (Nat.pow_pos (by omega))).1 h1 |> fun h => by rwa [Nat.mul_comm] at h
                    have HR5 := Lib.hid (HRS2.out.set3 hAX q1)
                    clear hlast
                    go_upto_region 21 with fail
                    obtain ⟨W5, hW5⟩ : ∃ W5, W5 = W6.setCell ⟨X, 3, none⟩ (.int .i64 (q1 : Int)) := ⟨_, rfl⟩
                    rw [← hW5] at HR5 ⊢
                    clear hW5 x0' x1' x2' x3' z3
                    obtain ⟨x0', x1', x2', x3'⟩ := blk4 HR5.out.x
                    go_wp2_with (at_builtin; refine wpList_append_row_at rfl (.tmp 73) (.tmp 75) 92 rfl W5 W5.heap.size rfl w.heap.size 96 i0 _ 32 4 Try.underlying92 hi0 hz0 hz1 hz2 rfl (by decide) (.slice al t cl) t (ciCells ts t) HR5.out.row rfl [.int .i64 (op : Int), .int .i64 ((acc2 : Nat) : Int), .int .i64 (p : Int), .int .i64 ((q1 : Nat) : Int)] rfl (by simp [Value.oneCell']) rfl rfl (by unfold maxLen; omega) (by omega) HR5.out.below.size ?_; intro v6 w6 hown6 hb6 hg6)
                    obtain ⟨h1, h2, h3⟩ := HR5.out.app hown6 hb6 hg6
                    have H1 := Lib.hid h1
                    have H2 := Lib.hid h2
                    have H3 := Lib.hid h3
                    have HPQ : Hid (q1 = tokAt ts (t + 1)) := by have h5 := HTA.out; rw [HTBE.out, List.length_cons, ← HV.out] at h5; have h6 := HLAST.out; have h7 := HQ1.out; have h8 := hp.out; have h9 := hq.out; unfold Hid; omega
                    have HQJ : Hid (q1 ≤ j) := by have h5 := tokAt_le ts (t + 1); have h6 := HPQ.out; have h7 := HM.out; unfold Hid; omega
                    clear h1 h2 h3 hown6 hb6 hg6
                    go_roundg (ts.length - (t + 1))
                    case measure => have := HK2.out; omega
                    case rel => exact ⟨t + 1, q1, by have := HK2.out; omega, by go_num, HPQ.out, rfl, rfl, by have h := H1.out; unfold Hid; rw [HCI.out, ← hp.out, ← HPQ.out]; rw [HAE.out] at h; exact h, H2.out, H3.out, HQJ.out⟩
                  · have hb1 : decide ((bt : Int) < 128) = false := by have h1 : ¬ arg / 128 ^ 0 < 128 := fun h => hlast (HVE.out.2 h); have h2 := HBT.out; rw [if_neg h1] at h2; simp; omega
                    have hb2 : decide (bt < 128) = false := by simp at hb1 ⊢; omega
                    have HLAST := Lib.hid hlast
                    clear hlast
                    go_wp2
                    go_roundg (v - (0 + 1))
                    case measure => have := HKV.out; omega
                    case rel => exact ⟨0 + 1, acc2, q1, by have := HKV.out; omega, by have := HKV.out; have := HLAST.out; omega, rfl, rfl, rfl, by go_num, by go_num, by have h1 := hq.out; have h2 := HQ1.out; unfold Hid; omega, HA2.out, HRS2.out⟩
                · skip
                  obtain ⟨acc2, hacc2⟩ : ∃ acc2, acc2 = acc + bt % 128 * 128 ^ 1 := ⟨_, rfl⟩
                  have hor : bits .or .i64 (acc : Int) ((bt : Int) % 128 * 128) = (acc2 : Int) := by rw [hacc2]; exact or_1 acc bt (by rw [hacc.out]; exact Nat.mod_lt _ (Nat.pow_pos (by omega)))
                  have HA2 : Hid (acc2 = arg % 128 ^ (1 + 1)) := by rw [hacc2]; exact acc_next arg 1 acc bt hacc.out HBT.out
                  have HRS2 := Lib.hid ((hrs.out.set1 hAX acc2).drew)
                  clear hacc2
                  go_wp2_with fail
                  go_region
                  obtain ⟨W6, hW6⟩ : ∃ W6, W6 = (wr.setCell ⟨X, 1, none⟩ (.int .i64 (acc2 : Int))).drew := ⟨_, rfl⟩
                  rw [← hW6] at HRS2 ⊢
                  clear hbc x0' x1' x2' x3' z1 hor hand
                  have hbc : W6.cell? ⟨g, q, none⟩ = some (.int .u8 (bt : Int)) := by
                    rw [hW6]
                    exact (((hrs.out.below.setCell (p := ⟨X, 1, none⟩) hrs.out.hX _).drew).cell (p := ⟨g, q, none⟩) HGB.out).trans (((hrs.out.below).cell (p := ⟨g, q, none⟩) HGB.out).symm.trans HBC.out)
                  clear hW6
                  obtain ⟨x0', x1', x2', x3'⟩ := blk4 HRS2.out.x
                  have z3 := HRS2.out.x.frozen 3
                  obtain ⟨q1, hq1⟩ : ∃ q1 : Nat, (q : Int) + 1 = (q1 : Int) := ⟨q + 1, by omega⟩
                  have hq2 : (q1 : Int) - 1 = (q : Int) := by omega
                  have HQ1 := Lib.hid (show q1 = q + 1 by omega)
                  by_cases hlast : 1 + 1 = v
                  · have hb1 : decide ((bt : Int) < 128) = true := by have h1 := HVE.out.1 hlast; have h2 := HBT.out; rw [if_pos h1] at h2; simp; omega
                    have hb2 : decide (bt < 128) = true := by simp at hb1 ⊢; omega
                    have HLAST := Lib.hid hlast
                    have HAE : Hid (acc2 = arg) := by
                      unfold Hid
                      rw [HA2.out]
                      have h1 := HVE.out.1 hlast
                      refine Nat.mod_eq_of_lt ?_
                      rw [Nat.pow_succ]
                      exact (Nat.div_lt_iff_lt_mul (Nat.pow_pos (by omega))).1 h1 |> fun h => by rwa [Nat.mul_comm] at h
                    have HR5 := Lib.hid (HRS2.out.set3 hAX q1)
                    clear hlast
                    go_upto_region 21 with fail
                    obtain ⟨W5, hW5⟩ : ∃ W5, W5 = W6.setCell ⟨X, 3, none⟩ (.int .i64 (q1 : Int)) := ⟨_, rfl⟩
                    rw [← hW5] at HR5 ⊢
                    clear hW5 x0' x1' x2' x3' z3
                    obtain ⟨x0', x1', x2', x3'⟩ := blk4 HR5.out.x
                    go_wp2_with (at_builtin; refine wpList_append_row_at rfl (.tmp 73) (.tmp 75) 92 rfl W5 W5.heap.size rfl w.heap.size 96 i0 _ 32 4 Try.underlying92 hi0 hz0 hz1 hz2 rfl (by decide) (.slice al t cl) t (ciCells ts t) HR5.out.row rfl [.int .i64 (op : Int), .int .i64 ((acc2 : Nat) : Int), .int .i64 (p : Int), .int .i64 ((q1 : Nat) : Int)] rfl (by simp [Value.oneCell']) rfl rfl (by unfold maxLen; omega) (by omega) HR5.out.below.size ?_; intro v6 w6 hown6 hb6 hg6)
                    obtain ⟨h1, h2, h3⟩ := HR5.out.app hown6 hb6 hg6
                    have H1 := Lib.hid h1
                    have H2 := Lib.hid h2
                    have H3 := Lib.hid h3
                    have HPQ : Hid (q1 = tokAt ts (t + 1)) := by have h5 := HTA.out; rw [HTBE.out, List.length_cons, ← HV.out] at h5; have h6 := HLAST.out; have h7 := HQ1.out; have h8 := hp.out; have h9 := hq.out; unfold Hid; omega
                    have HQJ : Hid (q1 ≤ j) := by have h5 := tokAt_le ts (t + 1); have h6 := HPQ.out; have h7 := HM.out; unfold Hid; omega
                    clear h1 h2 h3 hown6 hb6 hg6
                    go_roundg (ts.length - (t + 1))
                    case measure => have := HK2.out; omega
                    case rel => exact ⟨t + 1, q1, by have := HK2.out; omega, by go_num, HPQ.out, rfl, rfl, by have h := H1.out; unfold Hid; rw [HCI.out, ← hp.out, ← HPQ.out]; rw [HAE.out] at h; exact h, H2.out, H3.out, HQJ.out⟩
                  · have hb1 : decide ((bt : Int) < 128) = false := by have h1 : ¬ arg / 128 ^ 1 < 128 := fun h => hlast (HVE.out.2 h); have h2 := HBT.out; rw [if_neg h1] at h2; simp; omega
                    have hb2 : decide (bt < 128) = false := by simp at hb1 ⊢; omega
                    have HLAST := Lib.hid hlast
                    clear hlast
                    go_wp2
                    go_roundg (v - (1 + 1))
                    case measure => have := HKV.out; omega
                    case rel => exact ⟨1 + 1, acc2, q1, by have := HKV.out; omega, by have := HKV.out; have := HLAST.out; omega, rfl, rfl, rfl, by go_num, by go_num, by have h1 := hq.out; have h2 := HQ1.out; unfold Hid; omega, HA2.out, HRS2.out⟩
                · skip
                  obtain ⟨acc2, hacc2⟩ : ∃ acc2, acc2 = acc + bt % 128 * 128 ^ 2 := ⟨_, rfl⟩
                  have hor : bits .or .i64 (acc : Int) ((bt : Int) % 128 * 16384) = (acc2 : Int) := by rw [hacc2]; exact or_2 acc bt (by rw [hacc.out]; exact Nat.mod_lt _ (Nat.pow_pos (by omega)))
                  have HA2 : Hid (acc2 = arg % 128 ^ (2 + 1)) := by rw [hacc2]; exact acc_next arg 2 acc bt hacc.out HBT.out
                  have HRS2 := Lib.hid ((hrs.out.set1 hAX acc2).drew)
                  clear hacc2
                  go_wp2_with fail
                  go_region
                  obtain ⟨W6, hW6⟩ : ∃ W6, W6 = (wr.setCell ⟨X, 1, none⟩ (.int .i64 (acc2 : Int))).drew := ⟨_, rfl⟩
                  rw [← hW6] at HRS2 ⊢
                  clear hbc x0' x1' x2' x3' z1 hor hand
                  have hbc : W6.cell? ⟨g, q, none⟩ = some (.int .u8 (bt : Int)) := by
                    rw [hW6]
                    exact (((hrs.out.below.setCell (p := ⟨X, 1, none⟩) hrs.out.hX _).drew).cell (p := ⟨g, q, none⟩) HGB.out).trans (((hrs.out.below).cell (p := ⟨g, q, none⟩) HGB.out).symm.trans HBC.out)
                  clear hW6
                  obtain ⟨x0', x1', x2', x3'⟩ := blk4 HRS2.out.x
                  have z3 := HRS2.out.x.frozen 3
                  obtain ⟨q1, hq1⟩ : ∃ q1 : Nat, (q : Int) + 1 = (q1 : Int) := ⟨q + 1, by omega⟩
                  have hq2 : (q1 : Int) - 1 = (q : Int) := by omega
                  have HQ1 := Lib.hid (show q1 = q + 1 by omega)
                  by_cases hlast : 2 + 1 = v
                  · have hb1 : decide ((bt : Int) < 128) = true := by have h1 := HVE.out.1 hlast; have h2 := HBT.out; rw [if_pos h1] at h2; simp; omega
                    have hb2 : decide (bt < 128) = true := by simp at hb1 ⊢; omega
                    have HLAST := Lib.hid hlast
                    have HAE : Hid (acc2 = arg) := by
                      unfold Hid
                      rw [HA2.out]
                      have h1 := HVE.out.1 hlast
                      refine Nat.mod_eq_of_lt ?_
                      rw [Nat.pow_succ]
                      exact (Nat.div_lt_iff_lt_mul (Nat.pow_pos (by omega))).1 h1 |> fun h => by rwa [Nat.mul_comm] at h
                    have HR5 := Lib.hid (HRS2.out.set3 hAX q1)
                    clear hlast
                    go_upto_region 21 with fail
                    obtain ⟨W5, hW5⟩ : ∃ W5, W5 = W6.setCell ⟨X, 3, none⟩ (.int .i64 (q1 : Int)) := ⟨_, rfl⟩
                    rw [← hW5] at HR5 ⊢
                    clear hW5 x0' x1' x2' x3' z3
                    obtain ⟨x0', x1', x2', x3'⟩ := blk4 HR5.out.x
                    go_wp2_with (at_builtin; refine wpList_append_row_at rfl (.tmp 73) (.tmp 75) 92 rfl W5 W5.heap.size rfl w.heap.size 96 i0 _ 32 4 Try.underlying92 hi0 hz0 hz1 hz2 rfl (by decide) (.slice al t cl) t (ciCells ts t) HR5.out.row rfl [.int .i64 (op : Int), .int .i64 ((acc2 : Nat) : Int), .int .i64 (p : Int), .int .i64 ((q1 : Nat) : Int)] rfl (by simp [Value.oneCell']) rfl rfl (by unfold maxLen; omega) (by omega) HR5.out.below.size ?_; intro v6 w6 hown6 hb6 hg6)
                    obtain ⟨h1, h2, h3⟩ := HR5.out.app hown6 hb6 hg6
                    have H1 := Lib.hid h1
                    have H2 := Lib.hid h2
                    have H3 := Lib.hid h3
                    have HPQ : Hid (q1 = tokAt ts (t + 1)) := by have h5 := HTA.out; rw [HTBE.out, List.length_cons, ← HV.out] at h5; have h6 := HLAST.out; have h7 := HQ1.out; have h8 := hp.out; have h9 := hq.out; unfold Hid; omega
                    have HQJ : Hid (q1 ≤ j) := by have h5 := tokAt_le ts (t + 1); have h6 := HPQ.out; have h7 := HM.out; unfold Hid; omega
                    clear h1 h2 h3 hown6 hb6 hg6
                    go_roundg (ts.length - (t + 1))
                    case measure => have := HK2.out; omega
                    case rel => exact ⟨t + 1, q1, by have := HK2.out; omega, by go_num, HPQ.out, rfl, rfl, by have h := H1.out; unfold Hid; rw [HCI.out, ← hp.out, ← HPQ.out]; rw [HAE.out] at h; exact h, H2.out, H3.out, HQJ.out⟩
                  · have hb1 : decide ((bt : Int) < 128) = false := by have h1 : ¬ arg / 128 ^ 2 < 128 := fun h => hlast (HVE.out.2 h); have h2 := HBT.out; rw [if_neg h1] at h2; simp; omega
                    have hb2 : decide (bt < 128) = false := by simp at hb1 ⊢; omega
                    have HLAST := Lib.hid hlast
                    clear hlast
                    go_wp2
                    go_roundg (v - (2 + 1))
                    case measure => have := HKV.out; omega
                    case rel => exact ⟨2 + 1, acc2, q1, by have := HKV.out; omega, by have := HKV.out; have := HLAST.out; omega, rfl, rfl, rfl, by go_num, by go_num, by have h1 := hq.out; have h2 := HQ1.out; unfold Hid; omega, HA2.out, HRS2.out⟩
                · skip
                  obtain ⟨acc2, hacc2⟩ : ∃ acc2, acc2 = acc + bt % 128 * 128 ^ 3 := ⟨_, rfl⟩
                  have hor : bits .or .i64 (acc : Int) ((bt : Int) % 128 * 2097152) = (acc2 : Int) := by rw [hacc2]; exact or_3 acc bt (by rw [hacc.out]; exact Nat.mod_lt _ (Nat.pow_pos (by omega)))
                  have HA2 : Hid (acc2 = arg % 128 ^ (3 + 1)) := by rw [hacc2]; exact acc_next arg 3 acc bt hacc.out HBT.out
                  have HRS2 := Lib.hid ((hrs.out.set1 hAX acc2).drew)
                  clear hacc2
                  go_wp2_with fail
                  go_region
                  obtain ⟨W6, hW6⟩ : ∃ W6, W6 = (wr.setCell ⟨X, 1, none⟩ (.int .i64 (acc2 : Int))).drew := ⟨_, rfl⟩
                  rw [← hW6] at HRS2 ⊢
                  clear hbc x0' x1' x2' x3' z1 hor hand
                  have hbc : W6.cell? ⟨g, q, none⟩ = some (.int .u8 (bt : Int)) := by
                    rw [hW6]
                    exact (((hrs.out.below.setCell (p := ⟨X, 1, none⟩) hrs.out.hX _).drew).cell (p := ⟨g, q, none⟩) HGB.out).trans (((hrs.out.below).cell (p := ⟨g, q, none⟩) HGB.out).symm.trans HBC.out)
                  clear hW6
                  obtain ⟨x0', x1', x2', x3'⟩ := blk4 HRS2.out.x
                  have z3 := HRS2.out.x.frozen 3
                  obtain ⟨q1, hq1⟩ : ∃ q1 : Nat, (q : Int) + 1 = (q1 : Int) := ⟨q + 1, by omega⟩
                  have hq2 : (q1 : Int) - 1 = (q : Int) := by omega
                  have HQ1 := Lib.hid (show q1 = q + 1 by omega)
                  by_cases hlast : 3 + 1 = v
                  · have hb1 : decide ((bt : Int) < 128) = true := by have h1 := HVE.out.1 hlast; have h2 := HBT.out; rw [if_pos h1] at h2; simp; omega
                    have hb2 : decide (bt < 128) = true := by simp at hb1 ⊢; omega
                    have HLAST := Lib.hid hlast
                    have HAE : Hid (acc2 = arg) := by
                      unfold Hid
                      rw [HA2.out]
                      have h1 := HVE.out.1 hlast
                      refine Nat.mod_eq_of_lt ?_
                      rw [Nat.pow_succ]
                      exact (Nat.div_lt_iff_lt_mul (Nat.pow_pos (by omega))).1 h1 |> fun h => by rwa [Nat.mul_comm] at h
                    have HR5 := Lib.hid (HRS2.out.set3 hAX q1)
                    clear hlast
                    go_upto_region 21 with fail
                    obtain ⟨W5, hW5⟩ : ∃ W5, W5 = W6.setCell ⟨X, 3, none⟩ (.int .i64 (q1 : Int)) := ⟨_, rfl⟩
                    rw [← hW5] at HR5 ⊢
                    clear hW5 x0' x1' x2' x3' z3
                    obtain ⟨x0', x1', x2', x3'⟩ := blk4 HR5.out.x
                    go_wp2_with (at_builtin; refine wpList_append_row_at rfl (.tmp 73) (.tmp 75) 92 rfl W5 W5.heap.size rfl w.heap.size 96 i0 _ 32 4 Try.underlying92 hi0 hz0 hz1 hz2 rfl (by decide) (.slice al t cl) t (ciCells ts t) HR5.out.row rfl [.int .i64 (op : Int), .int .i64 ((acc2 : Nat) : Int), .int .i64 (p : Int), .int .i64 ((q1 : Nat) : Int)] rfl (by simp [Value.oneCell']) rfl rfl (by unfold maxLen; omega) (by omega) HR5.out.below.size ?_; intro v6 w6 hown6 hb6 hg6)
                    obtain ⟨h1, h2, h3⟩ := HR5.out.app hown6 hb6 hg6
                    have H1 := Lib.hid h1
                    have H2 := Lib.hid h2
                    have H3 := Lib.hid h3
                    have HPQ : Hid (q1 = tokAt ts (t + 1)) := by have h5 := HTA.out; rw [HTBE.out, List.length_cons, ← HV.out] at h5; have h6 := HLAST.out; have h7 := HQ1.out; have h8 := hp.out; have h9 := hq.out; unfold Hid; omega
                    have HQJ : Hid (q1 ≤ j) := by have h5 := tokAt_le ts (t + 1); have h6 := HPQ.out; have h7 := HM.out; unfold Hid; omega
                    clear h1 h2 h3 hown6 hb6 hg6
                    go_roundg (ts.length - (t + 1))
                    case measure => have := HK2.out; omega
                    case rel => exact ⟨t + 1, q1, by have := HK2.out; omega, by go_num, HPQ.out, rfl, rfl, by have h := H1.out; unfold Hid; rw [HCI.out, ← hp.out, ← HPQ.out]; rw [HAE.out] at h; exact h, H2.out, H3.out, HQJ.out⟩
                  · have hb1 : decide ((bt : Int) < 128) = false := by have h1 : ¬ arg / 128 ^ 3 < 128 := fun h => hlast (HVE.out.2 h); have h2 := HBT.out; rw [if_neg h1] at h2; simp; omega
                    have hb2 : decide (bt < 128) = false := by simp at hb1 ⊢; omega
                    have HLAST := Lib.hid hlast
                    clear hlast
                    go_wp2
                    go_roundg (v - (3 + 1))
                    case measure => have := HKV.out; omega
                    case rel => exact ⟨3 + 1, acc2, q1, by have := HKV.out; omega, by have := HKV.out; have := HLAST.out; omega, rfl, rfl, rfl, by go_num, by go_num, by have h1 := hq.out; have h2 := HQ1.out; unfold Hid; omega, HA2.out, HRS2.out⟩
            · have hd1 : decide (43 ≤ op) = false := by simp; omega
              have hd2 : decide ((43 : Int) ≤ (op : Int)) = false := by simp; omega
              obtain rfl : arg = 0 := HARG0.out (by omega)
              have HTB : Hid ((tokBytes (op, 0)).length = 1) := by unfold Hid tokBytes; rw [if_neg (by simp only; omega)]; rfl
              clear h43
              go_wp2_with fail
              obtain ⟨X, hX⟩ : ∃ X, X = wr.heap.size := ⟨_, rfl⟩
              have hAX : A ≠ X := by omega
              have HR4 := Lib.hid (HRB.out (.int .i64 (t : Int)))
              rw [← hX] at HR4 ⊢
              obtain ⟨W4, hW4⟩ : ∃ W4, W4 = (wr.setCell ⟨A, p, none⟩ (.int .i64 (t : Int))).alloc (.cells #[.int .i64 (op : Int), .int .i64 0, .int .i64 (p : Int), .int .i64 0] 96) := ⟨_, rfl⟩
              rw [← hW4] at HR4 ⊢
              clear hW4 hX hc0' ha0 hz0 HRB
              obtain ⟨x0', x1', x2', x3'⟩ := blk4 HR4.out.x
              have z3 := HR4.out.x.frozen 3
              obtain ⟨q, hq⟩ : ∃ q : Nat, (p : Int) + 1 = (q : Int) := ⟨p + 1, by omega⟩
              have HQ := Lib.hid (show q = p + 1 by omega)
              have HR5 := Lib.hid (HR4.out.set3 hAX q)
              refine wp_loop_rounds 1 ?_
              rw [rounds_succ]
              go_upto_region 21 with fail
              obtain ⟨W5, hW5⟩ : ∃ W5, W5 = W4.setCell ⟨X, 3, none⟩ (.int .i64 (q : Int)) := ⟨_, rfl⟩
              rw [← hW5] at HR5 ⊢
              clear hW5 x0' x1' x2' x3' z3
              obtain ⟨x0', x1', x2', x3'⟩ := blk4 HR5.out.x
              go_wp2_with (at_builtin; refine wpList_append_row_at rfl (.tmp 73) (.tmp 75) 92 rfl W5 W5.heap.size rfl w.heap.size 96 i0 _ 32 4 Try.underlying92 hi0 hz0 hz1 hz2 rfl (by decide) (.slice al t cl) t (ciCells ts t) HR5.out.row rfl [.int .i64 (op : Int), .int .i64 ((0 : Nat) : Int), .int .i64 (p : Int), .int .i64 ((q : Nat) : Int)] rfl (by simp [Value.oneCell']) rfl rfl (by unfold maxLen; omega) (by omega) HR5.out.below.size ?_; intro v6 w6 hown6 hb6 hg6)
              obtain ⟨h1, h2, h3⟩ := HR5.out.app hown6 hb6 hg6
              have H1 := Lib.hid h1
              have H2 := Lib.hid h2
              have H3 := Lib.hid h3
              have HPQ : Hid (q = tokAt ts (t + 1)) := by have h5 := HTA.out; have h6 := HTB.out; have h7 := HQ.out; have h8 := hp.out; unfold Hid; omega
              have HQJ : Hid (q ≤ j) := by have h5 := tokAt_le ts (t + 1); have h6 := HPQ.out; have h7 := HM.out; unfold Hid; omega
              clear h1 h2 h3 hown6 hb6 hg6
              go_roundg (ts.length - (t + 1))
              case measure => have := HK2.out; omega
              case rel => exact ⟨t + 1, q, by have := HK2.out; omega, by go_num, HPQ.out, rfl, rfl, by have h := H1.out; unfold Hid; rw [HCI.out, ← hp.out, ← HPQ.out]; exact h, H2.out, H3.out, HQJ.out⟩
          · obtain rfl : t = ts.length := by have := HK2.out; omega
            have hpj' : p = j := by rw [hp.out, tokAt_all]; exact HM.out.symm
            subst hpj'
            have HR := Lib.hid hrow.out
            have HB9 := Lib.hid hbw.out
            clear hrow hbw hat
            go_wp2
            go_ret3
            exact ⟨_, _, rfl, HR.out, HB9.out⟩
end Go.Proofs.Ytkddmiamdpbgiaa
