/- The bytes of a natural. -/
import Derived.Test.YteibkaonofkcbaaGreatMakeInt
import Derived.Test.YteibkaonofkcbaaGreatTupJoinC
import Derived.Deep.RegionHeld3
import Derived.Deep.DrawnRows
import Derived.Test.YteibkaonofkcbaaGreatTupJoinI
set_option linter.unusedSimpArgs false
set_option linter.unusedVariables false
namespace Go.Proofs.YteibkaonofkcbaaGreat
open Go.RowKit
theorem OB.only1 {w w' : World} {B : Nat} {v : Value} {l : List Nat} {g : Nat} (h : OB w B v l) (k : Only (· = g) w w') (hs : ∀ g', v.ownBlock = some g' → g' ≠ g) : OB w' B v l :=
  ⟨own_only h.1 k hs, h.2⟩
theorem natOf_zeros (n : Nat) : natOf (List.replicate n 0) = 0 := by
  induction n with
  | zero => rfl
  | succ k ih => rw [List.replicate_succ, natOf_zero_cons, ih]
theorem OW.row {w : World} {B g c n : Nat} {l : List Nat} (h : OW w B (.slice (some ⟨g, 0, none⟩) n c) l) : ∃ ca ta, w.heap[g]? = some (.cells ca ta (0, 0)) := by
  rcases h.1.2 with ⟨h0, _⟩ | ⟨g', cap, cur, hv, hb, hh, _⟩
  · exact absurd h0 (by intro e; injection e with e1; cases e1)
  · injection hv with e1
    injection e1 with e1
    injection e1 with e1
    subst e1
    exact ⟨_, _, hh⟩
/-- The words of x, in a world in which another row may have turned. -/
theorem OW.src {w : World} {B g c n gz : Nat} {l : List Nat} (h : OW w B (.slice (some ⟨g, 0, none⟩) n c) l) (hne : g ≠ gz) : ∀ W', Only (· = gz) w W' → ∀ j (hj : j < l.length), W'.cell? ⟨g, j, none⟩ = some (.int .u64 ((l[j]'hj : Nat) : Int)) := fun W' hO j hj => by
  have hlt : g < w.heap.size := by obtain ⟨_, _, h⟩ := h.row; exact (Array.getElem?_eq_some_iff.1 h).1
  rw [World.cell?_of_block (hO.block g hlt hne)]
  exact h.cell j hj
def NBytesPost (B gb n : Nat) (val : Nat) (w : World) (e : Ending) (w' : World) : Prop := ∃ (i : Nat) (l : List Nat), e = .returned (.int .i64 (i : Int)) ∧ i ≤ n ∧ OB w' B (.slice (some ⟨gb, 0, none⟩) n n) l ∧ l.length = n ∧ natOf l = val ∧ strip l = l.drop i ∧ Only (· = gb) w w'
theorem byte_step (V k j d0 : Nat) : (V + W64 ^ k * (d0 % 256 ^ j)) + (d0 / 256 ^ j % 256) * 256 ^ (8 * k + j) = V + W64 ^ k * (d0 % 256 ^ (j + 1)) := by
  rw [Nat.mod_pow_succ, Nat.pow_add, pow256_8, Nat.mul_add, ← Nat.mul_assoc (W64 ^ k), Nat.mul_comm (d0 / 256 ^ j % 256)]
  omega
theorem OB.only1' {w w' : World} {B g c n gz : Nat} {l : List Nat} (h : OB w B (.slice (some ⟨g, 0, none⟩) n c) l) (k : Only (· = gz) w w') (hne : g ≠ gz) : OB w' B (.slice (some ⟨g, 0, none⟩) n c) l :=
  h.only1 k (fun g' e => by
    have : g = g' := by simpa [Value.ownBlock] using e
    omega)
set_option maxRecDepth 20000 in
set_option maxHeartbeats 4000000 in
theorem nat_bytes (Bx B gb n m : Nat) (a : Option Addr) (c : Nat) (ws zs : List Nat) (w : World) (hx : OW w Bx (.slice a m c) ws) (hb : OB w B (.slice (some ⟨gb, 0, none⟩) n n) zs) (hzl : zs.length = n) (hz0 : ∀ j (h : j < zs.length), zs[j]'h = 0) (hnm : n = 8 * m) (hml : m = ws.length) (hm : m ≤ 1000) (hne : ∀ p, a = some p → p.block ≠ gb) :
    Calls Tryz.prog 87 #[.slice a m c, .slice (some ⟨gb, 0, none⟩) n n] w (NBytesPost B gb n (valW ws) w) := by
  have HX := Lib.hid hx
  have HB := Lib.hid hb
  have HZL := Lib.hid hzl
  have HZ0 := Lib.hid hz0
  have HNM := Lib.hid hnm
  have HML := Lib.hid hml
  have HNE := Lib.hid hne
  have HZN : Hid (natOf zs = 0) := by
    have : zs = List.replicate zs.length 0 := List.eq_replicate_iff.2 ⟨rfl, fun x hx => by obtain ⟨j, hj, e⟩ := List.getElem_of_mem hx; rw [← e]; exact hz0 j hj⟩
    unfold Hid; rw [this, natOf_zeros]
  have hgb : gb < w.heap.size := (hb.1.lt _ rfl).2
  have hn8 : n ≤ 8000 := by omega
  clear hx hb hzl hz0 hnm hml hne
  go_enter Tryz.func87, Tryz.ntmps87
  go_wp2_with fail
  go_loopw [4, 12] (fun iv kv wr => ∃ (k p : Nat) (l : List Nat), k ≤ m ∧ kv = .int .i64 (k : Int) ∧ iv = .int .i64 (p : Int) ∧ p ≤ n ∧ Hid (p + 8 * k = n) ∧ Hid (OB wr B (.slice (some ⟨gb, 0, none⟩) n n) l) ∧ Hid (l.length = n) ∧ Hid (natOf l = valW (ws.take k)) ∧ Hid (∀ j (h : j < l.length), j < p → l[j]'h = 0) ∧ Hid (Only (· = gb) w wr))
    (fun _ kv _ => m - (intOf kv).toNat)
  case atStart => exact ⟨0, n, zs, Nat.zero_le _, rfl, rfl, Nat.le_refl _, rfl, HB.out, HZL.out, by simp [Hid, valW, HZN.out], fun j h _ => HZ0.out j h, Only.refl _ _⟩
  case round =>
    obtain ⟨k, p, l, hk, rfl, rfl, hpn, hpk, hob, hll, hval, hzz, hO⟩ := hrel
    by_cases hkm : k < m
    · have hkw : k < ws.length := by have := HML.out; omega
      obtain ⟨gx, rfl, hgne⟩ : ∃ gx, a = some ⟨gx, 0, none⟩ ∧ gx ≠ gb := by
        rcases HX.out.form with ⟨h, h2⟩ | ⟨g, cap, h, _⟩
        · rw [h2] at hkw; simp at hkw
        · injection h with e1 e2 e3
          exact ⟨g, e1, HNE.out _ e1⟩
      obtain ⟨d0, hd0⟩ : ∃ d, d = ws[k]'hkw := ⟨_, rfl⟩
      have hcx := HX.out.src hgne wr hO.out k hkw
      rw [← hd0] at hcx
      have hkm' : (k : Int) < (m : Int) := by omega
      have hp8 : 8 ≤ p := by have h1 := hpk.out; have h2 := HNM.out; omega
      have HD0 := Lib.hid hd0
      clear hd0
      obtain ⟨wo, hwo⟩ : ∃ wo : World, wo = wr := ⟨_, rfl⟩
      subst hwo
      go_wp2_with fail
      go_loopw [4, 6, 7] (fun iv dv jv wr => ∃ (j q : Nat) (l2 : List Nat), j ≤ 8 ∧ jv = .int .i64 (j : Int) ∧ iv = .int .i64 (q : Int) ∧ dv = .int .u64 ((d0 / 256 ^ j : Nat) : Int) ∧ q ≤ n ∧ Hid (q + j = p) ∧ Hid (OB wr B (.slice (some ⟨gb, 0, none⟩) n n) l2) ∧ Hid (l2.length = n) ∧ Hid (natOf l2 = valW (ws.take k) + W64 ^ k * (d0 % 256 ^ j)) ∧ Hid (∀ t (h : t < l2.length), t < q → l2[t]'h = 0) ∧ Hid (Only (· = gb) w wr))
        (fun _ _ jv _ => 8 - (intOf jv).toNat)
      case atStart => exact ⟨0, p, l, by omega, rfl, rfl, by simp, hpn, rfl, hob.out, hll.out, by simp [Hid, hval.out, Nat.mod_one], hzz.out, hO.out⟩
      case round =>
        obtain ⟨j, q, l2, hj, rfl, rfl, rfl, hqn, hqj, hob2, hll2, hval2, hzz2, hO2⟩ := hrel
        by_cases hj8 : j < 8
        · obtain ⟨q', hq'⟩ : ∃ q', q = q' + 1 := ⟨q - 1, by have := hqj.out; omega⟩
          subst hq'
          have e1 : ((q' + 1 : Nat) : Int) - 1 = (q' : Int) := by omega
          have hql : q' < l2.length := by rw [hll2.out]; omega
          have hcell := hob2.out.cell q' hql
          have hfree := hob2.out.free q'
          have hgr : gb < wr.heap.size := Nat.lt_of_lt_of_le hgb hO2.out.size
          obtain ⟨X, hX⟩ : ∃ X : Nat, X = d0 / 256 ^ j := ⟨_, rfl⟩
          obtain ⟨y, hy⟩ : ∃ y : Nat, y = X % 256 := ⟨_, rfl⟩
          have hwr : IntKind.u8.wrap (X : Int) = (y : Int) := by simp [IntKind.wrap, IntKind.bits, IntKind.signed]; omega
          have hq0 : (q' : Int) < (n : Int) := by omega
          have HX' := Lib.hid hX
          have HY := Lib.hid hy
          rw [← hX]
          clear hX hy
          rw [show ((q' + 1 : Nat) : Int) = (q' : Int) + 1 by omega]
          clear e1
          go_wp2
          go_roundw
          case rel =>
            refine ⟨j + 1, q', l2.set q' y, by omega, by go_num, ?_, ?_, by omega, by have := hqj.out; unfold Hid; omega, hob2.out.store q' y (by rw [HY.out]; omega), by simpa [Hid] using hll2.out, ?_, ?_, hO2.out.setCell (p := ⟨gb, q', none⟩) (.inl rfl) _⟩
            · first | rfl | exact congrArg (Value.int .i64) (by omega)
            · refine congrArg (Value.int .u64) ?_
              rw [Nat.pow_succ, ← Nat.div_div_eq_div_mul, ← HX'.out]
              omega
            · unfold Hid
              rw [natOf_set l2 q' y hql (hzz2.out q' hql (by omega)), hll2.out, hval2.out, HY.out, HX'.out, show n - 1 - q' = 8 * k + j by have h1 := hqj.out; have h2 := hpk.out; omega]
              exact byte_step _ k j d0
            · intro t ht htq
              rw [List.getElem_set_ne (by omega)]
              exact hzz2.out t (by simpa using ht) (by omega)
          case measure => simp [intOf]; omega
        · obtain rfl : j = 8 := by omega
          go_wp2
          go_roundw
          case rel =>
            refine ⟨k + 1, q, l2, by omega, by go_num, rfl, hqn, by have h1 := hqj.out; have h2 := hpk.out; unfold Hid; omega, hob2.out, hll2.out, ?_, hzz2.out, hO2.out⟩
            unfold Hid
            have hdl : d0 < 256 ^ 8 := by rw [← W64_eq, HD0.out]; exact HX.out.2 _ (List.getElem_mem _)
            rw [hval2.out, Nat.mod_eq_of_lt hdl, List.take_succ_eq_append_getElem hkw, valW_append, List.length_take, Nat.min_eq_left (by omega), ← HD0.out]
            simp [valW]
          case measure => simp [intOf]; omega
    · obtain rfl : k = m := by omega
      have hp0 : p = 0 := by have h1 := hpk.out; have h2 := HNM.out; omega
      subst hp0
      have hfin : natOf l = valW ws := by have := hval.out; rw [List.take_of_length_le (by have := HML.out; omega)] at this; exact this
      have HFIN := Lib.hid hfin
      clear hfin
      go_wp2_with fail
      go_loop [4] (fun iv => ∃ i : Nat, i ≤ n ∧ iv = .int .i64 (i : Int) ∧ Hid (∀ j (h : j < l.length), j < i → l[j]'h = 0)) (fun iv => n - (intOf iv).toNat)
      case atStart => exact ⟨0, Nat.zero_le _, rfl, fun j h hj => absurd hj (Nat.not_lt_zero _)⟩
      case round =>
        obtain ⟨i, hi, rfl, hall⟩ := hrel
        by_cases hin : i < n
        · have hil : i < l.length := by rw [hll.out]; exact hin
          obtain ⟨x, hx⟩ : ∃ x, x = l[i]'hil := ⟨_, rfl⟩
          have hcell := hob.out.cell i hil
          rw [← hx] at hcell
          have hin' : (i : Int) < (n : Int) := by omega
          have HXX := Lib.hid hx
          clear hx
          by_cases hx0 : x = 0
          · have hq : ((x : Int) == 0) = true := by rw [hx0]; rfl
            have HX0 := Lib.hid hx0
            clear hx0
            go_wp2
            go_round
            case rel =>
              refine ⟨i + 1, by omega, by go_num, fun j hj hji => ?_⟩
              by_cases e : j = i
              · subst e; rw [← HXX.out]; exact HX0.out
              · exact hall.out j hj (by omega)
            case measure => simp [intOf]; omega
          · have hq : ((x : Int) == 0) = false := by rw [beq_eq_false_iff_ne]; omega
            have HX0 := Lib.hid hx0
            clear hx0
            go_wp2
            go_ret
            exact ⟨i, l, rfl, hi, hob.out, hll.out, HFIN.out, strip_drop l i (by omega) hall.out (fun h => by rw [← HXX.out]; exact HX0.out), hO.out⟩
        · obtain rfl : i = n := by omega
          go_wp2
          go_ret
          exact ⟨i, l, rfl, Nat.le_refl _, hob.out, hll.out, HFIN.out, strip_drop l i (by rw [hll.out]; exact Nat.le_refl _) hall.out (fun h => by rw [hll.out] at h; omega), hO.out⟩
end Go.Proofs.YteibkaonofkcbaaGreat
