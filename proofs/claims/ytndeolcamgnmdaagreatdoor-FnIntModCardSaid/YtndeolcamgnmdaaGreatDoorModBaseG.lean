/- Joined texts: NatBytes, Number. -/
import Derived.Test.YtndeolcamgnmdaaGreatDoorModBaseD
import Derived.Deep.RegionHeld3
import Derived.Deep.DrawnRows
import Derived.Test.YtndeolcamgnmdaaGreatDoorModBaseE
import Derived.Test.YtndeolcamgnmdaaGreatDoorModBaseF
import Derived.Laws.DeepNot64
set_option linter.unusedVariables false
set_option linter.unusedSimpArgs false
set_option linter.unnecessarySimpa false
namespace Go.Proofs.YtndeolcamgnmdaaGreatDoor
open Go.RowKit
theorem OW.row {w : World} {B g c n : Nat} {l : List Nat} (h : OW w B (.slice (some ⟨g, 0, none⟩) n c) l) : ∃ ca ta, w.heap[g]? = some (.cells ca ta (0, 0)) := by
  rcases h.1.2 with ⟨h0, _⟩ | ⟨g', cap, cur, hv, hb, hh, _⟩
  · exact absurd h0 (by intro e; injection e with e1; cases e1)
  · injection hv with e1
    injection e1 with e1
    injection e1 with e1
    subst e1
    exact ⟨_, _, hh⟩
/-- The words of x, in a world in which another row may have turned. -/
theorem OW.src {w : World} {B g c n gz : Nat} {l : List Nat} (h : OW w B (.slice (some ⟨g, 0, none⟩) n c) l) (hne : g ≠ gz) : ∀ W', Only (· = gz) w W' → ∀ j (hj : j < l.length), W'.cell? ⟨g, j, none⟩ = some (.int .u64 ((l[j]'hj : Nat) : Int)) := fun W' hO j hj => by
  have hlt : g < w.heap.size := by obtain ⟨_, _, h⟩ := h.row; exact (Array.getElem?_eq_some_iff.1 h).1
  rw [World.cell?_of_block (hO.block g hlt hne)]
  exact h.cell j hj
def NBytesPost (B gb n : Nat) (val : Nat) (w : World) (e : Ending) (w' : World) : Prop := ∃ (i : Nat) (l : List Nat), e = .returned (.int .i64 (i : Int)) ∧ i ≤ n ∧ OB w' B (.slice (some ⟨gb, 0, none⟩) n n) l ∧ l.length = n ∧ natOf l = val ∧ strip l = l.drop i ∧ Only (· = gb) w w'
theorem byte_step (V k j d0 : Nat) : (V + W64 ^ k * (d0 % 256 ^ j)) + (d0 / 256 ^ j % 256) * 256 ^ (8 * k + j) = V + W64 ^ k * (d0 % 256 ^ (j + 1)) := by
  rw [Nat.mod_pow_succ, Nat.pow_add, pow256_8, Nat.mul_add, ← Nat.mul_assoc (W64 ^ k), Nat.mul_comm (d0 / 256 ^ j % 256)]
  omega
theorem OB.only1' {w w' : World} {B g c n gz : Nat} {l : List Nat} (h : OB w B (.slice (some ⟨g, 0, none⟩) n c) l) (k : Only (· = gz) w w') (hne : g ≠ gz) : OB w' B (.slice (some ⟨g, 0, none⟩) n c) l :=
  h.only1 k (fun g' e => by
    have : g = g' := by simpa [Value.ownBlock] using e
    omega)
set_option maxRecDepth 20000 in
set_option maxHeartbeats 4000000 in
theorem nat_bytes (Bx B gb n m : Nat) (a : Option Addr) (c : Nat) (ws zs : List Nat) (w : World) (hx : OW w Bx (.slice a m c) ws) (hb : OB w B (.slice (some ⟨gb, 0, none⟩) n n) zs) (hzl : zs.length = n) (hz0 : ∀ j (h : j < zs.length), zs[j]'h = 0) (hnm : n = 8 * m) (hml : m = ws.length) (hm : m ≤ 1000) (hne : ∀ p, a = some p → p.block ≠ gb) :
    Calls Tryz.prog 42 #[.slice a m c, .slice (some ⟨gb, 0, none⟩) n n] w (NBytesPost B gb n (valW ws) w) := by
  have HX := Lib.hid hx
  have HB := Lib.hid hb
  have HZL := Lib.hid hzl
  have HZ0 := Lib.hid hz0
  have HNM := Lib.hid hnm
  have HML := Lib.hid hml
  have HNE := Lib.hid hne
  have HZN : Hid (natOf zs = 0) := by
    have : zs = List.replicate zs.length 0 := List.eq_replicate_iff.2 ⟨rfl, fun x hx => by obtain ⟨j, hj, e⟩ := List.getElem_of_mem hx; rw [← e]; exact hz0 j hj⟩
    unfold Hid; rw [this, natOf_zeros]
  have hgb : gb < w.heap.size := (hb.1.lt _ rfl).2
  have hn8 : n ≤ 8000 := by omega
  clear hx hb hzl hz0 hnm hml hne
  go_enter Tryz.func42, Tryz.ntmps42
  go_wp2_with fail
  go_loopw [4, 12] (fun iv kv wr => ∃ (k p : Nat) (l : List Nat), k ≤ m ∧ kv = .int .i64 (k : Int) ∧ iv = .int .i64 (p : Int) ∧ p ≤ n ∧ Hid (p + 8 * k = n) ∧ Hid (OB wr B (.slice (some ⟨gb, 0, none⟩) n n) l) ∧ Hid (l.length = n) ∧ Hid (natOf l = valW (ws.take k)) ∧ Hid (∀ j (h : j < l.length), j < p → l[j]'h = 0) ∧ Hid (Only (· = gb) w wr))
    (fun _ kv _ => m - (intOf kv).toNat)
  case atStart => exact ⟨0, n, zs, Nat.zero_le _, rfl, rfl, Nat.le_refl _, rfl, HB.out, HZL.out, by simp [Hid, valW, HZN.out], fun j h _ => HZ0.out j h, Only.refl _ _⟩
  case round =>
    obtain ⟨k, p, l, hk, rfl, rfl, hpn, hpk, hob, hll, hval, hzz, hO⟩ := hrel
    by_cases hkm : k < m
    · have hkw : k < ws.length := by have := HML.out; omega
      obtain ⟨gx, rfl, hgne⟩ : ∃ gx, a = some ⟨gx, 0, none⟩ ∧ gx ≠ gb := by
        rcases HX.out.form with ⟨h, h2⟩ | ⟨g, cap, h, _⟩
        · rw [h2] at hkw; simp at hkw
        · injection h with e1 e2 e3
          exact ⟨g, e1, HNE.out _ e1⟩
      obtain ⟨d0, hd0⟩ : ∃ d, d = ws[k]'hkw := ⟨_, rfl⟩
      have hcx := HX.out.src hgne wr hO.out k hkw
      rw [← hd0] at hcx
      have hkm' : (k : Int) < (m : Int) := by omega
      have hp8 : 8 ≤ p := by have h1 := hpk.out; have h2 := HNM.out; omega
      have HD0 := Lib.hid hd0
      clear hd0
      obtain ⟨wo, hwo⟩ : ∃ wo : World, wo = wr := ⟨_, rfl⟩
      subst hwo
      go_wp2_with fail
      go_loopw [4, 6, 7] (fun iv dv jv wr => ∃ (j q : Nat) (l2 : List Nat), j ≤ 8 ∧ jv = .int .i64 (j : Int) ∧ iv = .int .i64 (q : Int) ∧ dv = .int .u64 ((d0 / 256 ^ j : Nat) : Int) ∧ q ≤ n ∧ Hid (q + j = p) ∧ Hid (OB wr B (.slice (some ⟨gb, 0, none⟩) n n) l2) ∧ Hid (l2.length = n) ∧ Hid (natOf l2 = valW (ws.take k) + W64 ^ k * (d0 % 256 ^ j)) ∧ Hid (∀ t (h : t < l2.length), t < q → l2[t]'h = 0) ∧ Hid (Only (· = gb) w wr))
        (fun _ _ jv _ => 8 - (intOf jv).toNat)
      case atStart => exact ⟨0, p, l, by omega, rfl, rfl, by simp, hpn, rfl, hob.out, hll.out, by simp [Hid, hval.out, Nat.mod_one], hzz.out, hO.out⟩
      case round =>
        obtain ⟨j, q, l2, hj, rfl, rfl, rfl, hqn, hqj, hob2, hll2, hval2, hzz2, hO2⟩ := hrel
        by_cases hj8 : j < 8
        · obtain ⟨q', hq'⟩ : ∃ q', q = q' + 1 := ⟨q - 1, by have := hqj.out; omega⟩
          subst hq'
          have e1 : ((q' + 1 : Nat) : Int) - 1 = (q' : Int) := by omega
          have hql : q' < l2.length := by rw [hll2.out]; omega
          have hcell := hob2.out.cell q' hql
          have hfree := hob2.out.free q'
          have hgr : gb < wr.heap.size := Nat.lt_of_lt_of_le hgb hO2.out.size
          obtain ⟨X, hX⟩ : ∃ X : Nat, X = d0 / 256 ^ j := ⟨_, rfl⟩
          obtain ⟨y, hy⟩ : ∃ y : Nat, y = X % 256 := ⟨_, rfl⟩
          have hwr : IntKind.u8.wrap (X : Int) = (y : Int) := by simp [IntKind.wrap, IntKind.bits, IntKind.signed]; omega
          have hq0 : (q' : Int) < (n : Int) := by omega
          have HX' := Lib.hid hX
          have HY := Lib.hid hy
          rw [← hX]
          clear hX hy
          rw [show ((q' + 1 : Nat) : Int) = (q' : Int) + 1 by omega]
          clear e1
          go_wp2
          go_roundw
          case rel =>
            refine ⟨j + 1, q', l2.set q' y, by omega, by go_num, ?_, ?_, by omega, by have := hqj.out; unfold Hid; omega, hob2.out.store q' y (by rw [HY.out]; omega), by simpa [Hid] using hll2.out, ?_, ?_, hO2.out.setCell (p := ⟨gb, q', none⟩) (.inl rfl) _⟩
            · first | rfl | exact congrArg (Value.int .i64) (by omega)
            · refine congrArg (Value.int .u64) ?_
              rw [Nat.pow_succ, ← Nat.div_div_eq_div_mul, ← HX'.out]
              omega
            · unfold Hid
              rw [natOf_set l2 q' y hql (hzz2.out q' hql (by omega)), hll2.out, hval2.out, HY.out, HX'.out, show n - 1 - q' = 8 * k + j by have h1 := hqj.out; have h2 := hpk.out; omega]
              exact byte_step _ k j d0
            · intro t ht htq
              rw [List.getElem_set_ne (by omega)]
              exact hzz2.out t (by simpa using ht) (by omega)
          case measure => simp [intOf]; omega
        · obtain rfl : j = 8 := by omega
          go_wp2
          go_roundw
          case rel =>
            refine ⟨k + 1, q, l2, by omega, by go_num, rfl, hqn, by have h1 := hqj.out; have h2 := hpk.out; unfold Hid; omega, hob2.out, hll2.out, ?_, hzz2.out, hO2.out⟩
            unfold Hid
            have hdl : d0 < 256 ^ 8 := by rw [← W64_eq, HD0.out]; exact HX.out.2 _ (List.getElem_mem _)
            rw [hval2.out, Nat.mod_eq_of_lt hdl, List.take_succ_eq_append_getElem hkw, valW_append, List.length_take, Nat.min_eq_left (by omega), ← HD0.out]
            simp [valW]
          case measure => simp [intOf]; omega
    · obtain rfl : k = m := by omega
      have hp0 : p = 0 := by have h1 := hpk.out; have h2 := HNM.out; omega
      subst hp0
      have hfin : natOf l = valW ws := by have := hval.out; rw [List.take_of_length_le (by have := HML.out; omega)] at this; exact this
      have HFIN := Lib.hid hfin
      clear hfin
      go_wp2_with fail
      go_loop [4] (fun iv => ∃ i : Nat, i ≤ n ∧ iv = .int .i64 (i : Int) ∧ Hid (∀ j (h : j < l.length), j < i → l[j]'h = 0)) (fun iv => n - (intOf iv).toNat)
      case atStart => exact ⟨0, Nat.zero_le _, rfl, fun j h hj => absurd hj (Nat.not_lt_zero _)⟩
      case round =>
        obtain ⟨i, hi, rfl, hall⟩ := hrel
        by_cases hin : i < n
        · have hil : i < l.length := by rw [hll.out]; exact hin
          obtain ⟨x, hx⟩ : ∃ x, x = l[i]'hil := ⟨_, rfl⟩
          have hcell := hob.out.cell i hil
          rw [← hx] at hcell
          have hin' : (i : Int) < (n : Int) := by omega
          have HXX := Lib.hid hx
          clear hx
          by_cases hx0 : x = 0
          · have hq : ((x : Int) == 0) = true := by rw [hx0]; rfl
            have HX0 := Lib.hid hx0
            clear hx0
            go_wp2
            go_round
            case rel =>
              refine ⟨i + 1, by omega, by go_num, fun j hj hji => ?_⟩
              by_cases e : j = i
              · subst e; rw [← HXX.out]; exact HX0.out
              · exact hall.out j hj (by omega)
            case measure => simp [intOf]; omega
          · have hq : ((x : Int) == 0) = false := by rw [beq_eq_false_iff_ne]; omega
            have HX0 := Lib.hid hx0
            clear hx0
            go_wp2
            go_ret
            exact ⟨i, l, rfl, hi, hob.out, hll.out, HFIN.out, strip_drop l i (by omega) hall.out (fun h => by rw [← HXX.out]; exact HX0.out), hO.out⟩
        · obtain rfl : i = n := by omega
          go_wp2
          go_ret
          exact ⟨i, l, rfl, Nat.le_refl _, hob.out, hll.out, HFIN.out, strip_drop l i (by rw [hll.out]; exact Nat.le_refl _) hall.out (fun h => by rw [hll.out] at h; omega), hO.out⟩
end Go.Proofs.YtndeolcamgnmdaaGreatDoor
namespace Go.Proofs.YtndeolcamgnmdaaGreatDoor
open Go.RowKit
def BytesPost (val : Nat) (w : World) (e : Ending) (w' : World) : Prop := ∃ (g o c : Nat) (l : List Nat), e = .returned (.slice (some ⟨g, o, none⟩) l.length c) ∧ BSl w' (.slice (some ⟨g, o, none⟩) l.length c) l ∧ l.head? ≠ some 0 ∧ natOf l = val ∧ w.heap.size ≤ g ∧ Below w.heap.size w w'
set_option maxRecDepth 20000 in
set_option maxHeartbeats 1000000 in
theorem big_bytes (B b : Nat) (neg : Bool) (ws : List Nat) (w : World) (h : BigI w B b neg ws) :
    Calls Tryz.prog 31 #[.pointer (some ⟨b, 0, none⟩)] w (BytesPost (valW ws) w) := by
  obtain ⟨v, hk, how, ht, hneg, hlen⟩ := h
  obtain ⟨a, c, hva⟩ := how.shape
  obtain ⟨m, hm⟩ : ∃ m, m = ws.length := ⟨_, rfl⟩
  rw [← hm] at hva
  subst hva
  obtain ⟨n, hn⟩ : ∃ n : Nat, (m : Int) * 8 = (n : Int) := ⟨m * 8, by omega⟩
  obtain ⟨W1, hmk, hob, hbw⟩ := bytes_made n (by omega) w
  obtain ⟨x0, x1, fx0, fx1⟩ := blk2 hk
  obtain ⟨y0, y1, fy0, fy1⟩ := blk2 (hk.below hbw hk.lt)
  have hne : ∀ p, a = some p → p.block ≠ w.heap.size := fun p e => by
    subst e
    have := (how.1.lt p.block rfl).2
    omega
  have HB := Lib.hid (nat_bytes B w.heap.size w.heap.size n m a c ws (List.replicate n 0) W1 (how.below hbw) hob (by simp) (fun j h => List.eq_of_mem_replicate (List.getElem_mem h)) (by omega) hm (by omega) hne)
  have HBW := Lib.hid hbw
  have hn8 : n ≤ 8000 := by omega
  clear hk how ht hneg hlen hm hne hob
  go_enter Tryz.func31, Tryz.ntmps31
  go_wp2_with fail
  refine HB.out.mono ?_
  rintro e w2 ⟨i, l, rfl, hi, hob, hll, hnat, hst, hO⟩
  have hs := fun W => slice_from W (some ⟨w.heap.size, 0, none⟩) n n i hi
  have hbs := (OB.bsl hob)
  have hbf := hbs.from i hi
  obtain ⟨o, hA⟩ : ∃ o, (if n = i then (some ⟨w.heap.size, 0, none⟩ : Option Addr) else (some ⟨w.heap.size, 0, none⟩ : Option Addr).map (·.add (i * 1))) = some ⟨w.heap.size, o, none⟩ := by
    split
    · exact ⟨0, rfl⟩
    · exact ⟨0 + i * 1, by simp [Addr.add_lit]⟩
  rw [hA] at hbf
  simp only [hA] at hs
  obtain ⟨q, hq⟩ : ∃ q, q = n - i := ⟨_, rfl⟩
  rw [← hq] at hbf
  simp only [← hq] at hs
  have hql : q = (l.drop i).length := by rw [List.length_drop, hll]; exact hq
  have HBF := Lib.hid hbf
  have HST := Lib.hid hst
  have HNAT := Lib.hid hnat
  have HQL := Lib.hid hql
  have HO : Hid (Below w.heap.size w w2) := HBW.out.trans (hO.to_below HBW.out.size (fun k _ e => by omega))
  clear hob hll hnat hst hO hbs hbf hA hq hql
  go_wp2
  go_ret
  refine ⟨w.heap.size, o, q, l.drop i, by rw [← HQL.out]; rfl, by rw [← HQL.out]; exact HBF.out, by rw [← HST.out]; exact strip_head l, by rw [← HST.out, natOf_strip]; exact HNAT.out, Nat.le_refl _, HO.out⟩
def BigNewPost (n : Int) (w : World) (e : Ending) (w' : World) : Prop := ∃ b neg ws, e = .returned (.pointer (some ⟨b, 0, none⟩)) ∧ BigI w' 0 b neg ws ∧ valI neg ws = n ∧ Below w.heap.size w w'
set_option maxHeartbeats 1000000 in
theorem star_bigInt (B : Nat) (v : Value) (n : Int) (w : World) (hv : SI w B v n) :
    Calls Tryz.prog 30 #[v] w (BigNewPost n w) := by
  rcases hv with ⟨hs, rfl⟩ | ⟨hs, b, neg, ws, rfl, _, hbi, hval⟩
  · have h1 := of_decide_eq_true hs
    have HNI := Lib.hid (fun W => new_int n h1.1 h1.2 W)
    clear hs h1
    go_enter Tryz.func30, Tryz.ntmps30
    go_wp2_with fail
    refine (int_get n none _).mono ?_
    rintro e w1 ⟨rfl, hb1⟩
    have HBW := Lib.hid (((Below.refl _ w).alloc (Nat.le_refl _) _).trans (hb1.mono (by simp)))
    clear hb1
    go_wp2_with fail
    refine (HNI.out _).mono ?_
    rintro e w2 ⟨b, neg, ws, rfl, hge, hbi, hval, hb2⟩
    have HBI := Lib.hid hbi
    have HV := Lib.hid hval
    have HB2 := Lib.hid (HBW.out.trans (hb2.mono HBW.out.size))
    clear hge hbi hval hb2
    go_wp2
    go_ret
    exact ⟨b, neg, ws, rfl, HBI.out, HV.out, HB2.out⟩
  · have HV := Lib.hid hval
    have HBI := Lib.hid (hbi.below ((Below.refl _ w).alloc (Nat.le_refl _) (.cells #[.int .i64 0, .pointer (some ⟨b, 0, none⟩)] 48)))
    clear hs hval hbi
    go_enter Tryz.func30, Tryz.ntmps30
    go_wp2_with fail
    refine (int_get 0 (some ⟨b, 0, none⟩) _).mono ?_
    rintro e w1 ⟨rfl, hb1⟩
    have HBI1 := Lib.hid (HBI.out.below hb1)
    have HBW := Lib.hid (((Below.refl _ w).alloc (Nat.le_refl _) _).trans (hb1.mono (by simp)))
    clear hb1
    have HBI2 := Lib.hid (HBI1.out.below ((Below.refl _ w1).alloc (Nat.le_refl _) (.cells #[.bool false, .slice none 0 0] 60)))
    have hlt := HBI1.out.blk
    go_wp2_with fail
    refine (int_set B w1.heap.size b neg ws _ (Blk.new w1 60 #[.bool false, .slice none 0 0]) HBI2.out (by omega)).mono ?_
    rintro e w2 ⟨rfl, hb2, hO⟩
    have HB2 := Lib.hid (hb2.base (Nat.zero_le _))
    have HBF : Hid (Below w.heap.size w w2) := HBW.out.trans (((Below.refl _ w1).alloc (Nat.le_refl _) _ |>.trans (hO.to_below (B := w1.heap.size) (by simp) (fun k hk e => by omega))).mono HBW.out.size)
    clear hb2 hO
    go_wp2
    go_ret
    exact ⟨w1.heap.size, neg, ws, rfl, HB2.out, HV.out, HBF.out⟩
theorem block_add (p : Addr) (j : Nat) : (p.add j).block = p.block := by unfold Addr.add; split <;> rfl
theorem bsl_only {w w' : World} {a : Option Addr} {n c R : Nat} {l : List Nat} (h : BSl w (.slice a n c) l) (k : Only (· = R) w w') (hne : ∀ p, a = some p → p.block ≠ R) : BSl w' (.slice a n c) l := by
  obtain ⟨a', c', hv, h1, h2, h3, h4, h5⟩ := h
  refine ⟨a', c', hv, h1, h2, h3, h4, fun p hp j hj => ?_⟩
  injection hv with e1
  have hc := h5 p hp j hj
  have hlt := World.block_lt_of_cell? w _ hc
  rw [← hc]
  exact World.cell?_of_block (k.block _ hlt (by rw [block_add]; exact hne p (by rw [e1, hp])))
/-- An integer of the thin package that reads so. -/
def NumV (w : World) (B : Nat) (v : Value) (neg : Bool) (l : List Nat) : Prop := ∃ (g o c : Nat), v = .agg #[.int .i64 2, .bool neg, .slice (some ⟨g, o, none⟩) l.length c, .int .u64 0, .string ⟨#[]⟩, .slice none 0 0] ∧ BSl w (.slice (some ⟨g, o, none⟩) l.length c) l ∧ B ≤ g ∧ l.head? ≠ some 0 ∧ (neg = true → l ≠ [])
def NumVPost (n : Int) (w : World) (e : Ending) (w' : World) : Prop := ∃ v neg l, e = .returned v ∧ NumV w' w.heap.size v neg l ∧ intOf2 neg l = n ∧ Below w.heap.size w w'
theorem signW_neg (neg : Bool) (ws : List Nat) (hn : neg = true → ws ≠ []) : decide (signW neg ws < 0) = neg := by
  unfold signW
  cases neg
  · simp; split <;> omega
  · have := hn rfl
    simp [this]
set_option maxRecDepth 20000 in
set_option maxHeartbeats 2000000 in
theorem impl_number (B : Nat) (x : Int) (p : Option Addr) (n : Int) (w : World) (hv : SI w B (.agg #[.int .i64 x, .pointer p]) n) :
    Calls Tryz.prog 18 #[.agg #[.int .i64 x, .pointer p]] w (NumVPost n w) := by
  have HV := Lib.hid hv
  have HK := Lib.hid (Blk.new_at (w.alloc (.cells #[.int .i64 x, .pointer p] 48)) 28 #[.int .i64 0, .bool false, .slice none 0 0, .int .u64 0, .string ⟨#[]⟩, .slice none 0 0] (n := w.heap.size + 1) (by simp))
  have HB0 : Hid (∀ a b : Obj, Below w.heap.size w ((w.alloc a).alloc b)) := fun a b => ((Below.refl _ w).alloc (Nat.le_refl _) a).alloc (by simp) b
  clear hv
  go_enter Tryz.func18, Tryz.ntmps18
  go_wp2_with fail
  refine (star_bigInt B _ n _ (HV.out.below (HB0.out _ _))).mono ?_
  rintro e w1 ⟨b, neg, ws, rfl, hbi, hval, hb1⟩
  have HBI := Lib.hid hbi
  have HVAL := Lib.hid hval
  have HB1 := Lib.hid ((HB0.out _ _).trans (hb1.mono (HB0.out _ _).size))
  have k1 := Lib.hid (HK.out.below hb1 (by simp))
  have HSN : Hid (decide (signW neg ws < 0) = neg) := by obtain ⟨_, _, _, _, hn, _⟩ := hbi; exact signW_neg neg ws hn
  have HNZ : Hid (neg = true → valW ws ≠ 0) := by
    obtain ⟨_, _, _, ht, hn, _⟩ := hbi
    intro h e
    have h0 := hn h
    obtain ⟨init, last, rfl⟩ : ∃ init last, ws = init ++ [last] := ⟨ws.dropLast, ws.getLast h0, (List.dropLast_concat_getLast h0).symm⟩
    have hl0 : last ≠ 0 := by unfold TopNZ at ht; simpa using ht
    have h1 := valW_top init last hl0
    have h2 : 0 < W64 ^ init.length := Nat.pow_pos W64_pos
    omega
  have hz1 : w.heap.size + 1 < w1.heap.size := by have := k1.out.lt; exact this
  clear hbi hval hb1
  obtain ⟨sg, hsg⟩ : ∃ sg, sg = signW neg ws := ⟨_, rfl⟩
  have hsgd := HSN.out
  rw [← hsg] at hsgd
  have HSG := Lib.hid hsg
  clear hsg
  go_wp2_with fail
  refine (big_sign 0 b neg ws _ HBI.out).mono ?_
  unfold SignWPost
  rw [← HSG.out]
  rintro e w2 ⟨rfl, rfl⟩
  go_wp2_with fail
  refine (big_bytes 0 b neg ws _ HBI.out).mono ?_
  rintro e w3 ⟨g, o, c, l, rfl, hbs, hh, hnat, hab, hb3⟩
  have HAB := Lib.hid hab
  obtain ⟨q, hq⟩ : ∃ q, q = l.length := ⟨_, rfl⟩
  rw [← hq]
  have HBS := Lib.hid hbs
  have HH := Lib.hid hh
  have HNAT := Lib.hid hnat
  have HQ := Lib.hid hq
  have HB3 := Lib.hid (HB1.out.trans (hb3.mono HB1.out.size))
  obtain ⟨e0, e1, e2, e3, e4, e5, f0, f1, f2, f3, f4, f5⟩ := blk6 (k1.out.below hb3 k1.out.lt)
  have k3 := Lib.hid (k1.out.below hb3 k1.out.lt)
  clear hbs hh hnat hq hb3 hab
  go_wp2
  refine bodyPost_ret (v := .agg #[.int .i64 2, .bool neg, .slice (some ⟨g, o, none⟩) q c, .int .u64 0, .string ⟨#[]⟩, .slice none 0 0]) (by simp [results, Tryz.results18, go_sem, e0, e1, e2, e3, e4, e5]) rfl ?_
  have hO := six_set w3 (w.heap.size + 1) (.int .i64 2) (.bool neg) (.slice (some ⟨g, o, none⟩) q c) (.int .u64 0) (.string ⟨#[]⟩) (.slice none 0 0)
  refine ⟨_, neg, l, rfl, ⟨g, o, c, by rw [HQ.out], bsl_only HBS.out hO (fun p e => by injection e with e; subst e; have := HAB.out; show g ≠ _; omega), by have := HAB.out; omega, HH.out, fun h e => ?_⟩, ?_, ?_⟩
  · have h1 := HNAT.out
    rw [e] at h1
    exact HNZ.out h h1.symm
  · rw [← HVAL.out]; exact intOf2_valI HNAT.out.symm
  · exact ((((((HB3.out.setCell (p := ⟨w.heap.size + 1, 0, none⟩) (by simp) _).setCell (p := ⟨w.heap.size + 1, 1, none⟩) (by simp) _).setCell (p := ⟨w.heap.size + 1, 2, none⟩) (by simp) _).setCell (p := ⟨w.heap.size + 1, 3, none⟩) (by simp) _).setCell (p := ⟨w.heap.size + 1, 4, none⟩) (by simp) _).setCell (p := ⟨w.heap.size + 1, 5, none⟩) (by simp) _)
end Go.Proofs.YtndeolcamgnmdaaGreatDoor
