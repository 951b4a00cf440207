/- A varint written behind bytes of one's own; what blocks of other kinds keep. -/
import Derived.Test.YtkddmiamdpbgiaaVint
namespace Go.Proofs.Ytkddmiamdpbgiaa
open Go.RowKit
/-- Every block of another kind than t stays. -/
def KeepsT (t : TypeId) (w w' : World) : Prop := ∀ (i : Nat) (e : TypeId) (cs : Array Value) (fz : Nat × Nat), w.heap[i]? = some (Obj.cells cs e fz) → e ≠ t → w'.heap[i]? = some (Obj.cells cs e fz)
theorem KeepsT.refl (t : TypeId) (w : World) : KeepsT t w w := fun _ _ _ _ h _ => h
theorem KeepsT.trans {t : TypeId} {a b c : World} (h : KeepsT t a b) (k : KeepsT t b c) : KeepsT t a c := fun i e cs fz hi hne => k i e cs fz (h i e cs fz hi hne) hne
theorem KeepsT.own {t : TypeId} {w w' : World} (h : KeepsT t w w') {B : Nat} {e : TypeId} {size : Nat} {v : Value} {n : Nat} {xs : List Value} (ho : w.ownsRow B e size v n xs) (hne : e ≠ t) : w'.ownsRow B e size v n xs := by
  refine ⟨ho.1, ?_⟩
  rcases ho.2 with h0 | ⟨g, cap, cur, rfl, hb, hg, hrest⟩
  · exact .inl h0
  · exact .inr ⟨g, cap, cur, rfl, hb, h _ _ _ _ hg hne, hrest⟩
theorem KeepsT.blk {t : TypeId} {w w' : World} (h : KeepsT t w w') {g : Nat} {e : TypeId} {cs : Array Value} (hb : Blk w g e cs) (hne : e ≠ t) : Blk w' g e cs := h _ _ _ _ hb hne
theorem KeepsT.of_grown {t : TypeId} {w w' : World} {B : Nat} {size : Nat} {v : Value} {n : Nat} {xs : List Value} (ho : w.ownsRow B t size v n xs) (hg : w.grownBy w' v.ownBlock) : KeepsT t w w' := by
  intro i e cs fz hi hne
  have hlt := (Array.getElem?_eq_some_iff.1 hi).1
  refine (hg.block i hlt ?_).trans hi
  intro e1
  rcases ho.2 with ⟨rfl, _⟩ | ⟨g', cap, cur, rfl, _, hh, _⟩
  · simp [Value.ownBlock] at e1
  · simp only [Value.ownBlock, Option.some.injEq] at e1
    subst e1
    rw [hh] at hi
    injection hi with h1
    injection h1 with _ h2
    exact hne h2.symm
def nbs (l : List Nat) : List Value := l.map fun (x : Nat) => Value.int .u8 (x : Int)
/-- v owns the bytes l. -/
def NB (B : Nat) (w : World) (v : Value) (l : List Nat) : Prop := w.ownsRow B 5 1 v l.length (nbs l)
theorem NB.more {w : World} {B : Nat} {v : Value} {l : List Nat} {c : Nat} (h : w.ownsRow B 5 1 v (l.length + 1) (nbs l ++ [.int .u8 (c : Int)])) : NB B w v (l ++ [c]) := by
  unfold NB nbs at *
  simpa using h
/-- The bytes of x, and zeros behind them until there are m. -/
def padded (x m : Nat) : List Nat := vints x ++ List.replicate (m - (vints x).length) 0
theorem Try.infoB : (Try.prog.info? 5).map (fun i => (i.zero, i.size, i.bytes)) = some (some (.int .u8 0), 1, 1) := by kernel_rfl
theorem or_byte (y : Nat) : bits .or .u8 ((y : Int) % 256) 128 = ((y % 128 + 128 : Nat) : Int) := by
  have h : ∀ k : Fin 256, bits .or .u8 (k.val : Int) 128 = ((k.val % 128 + 128 : Nat) : Int) := by decide +kernel
  have h1 := h ⟨y % 256, by omega⟩
  have e1 : ((y % 256 : Nat) : Int) = (y : Int) % 256 := by omega
  have e2 : y % 256 % 128 = y % 128 := by omega
  simp only [e1, e2] at h1
  exact h1
def vlen : Value → Nat
  | .slice _ n _ => n
  | _ => 0
theorem NB.form {B : Nat} {w : World} {v : Value} {l : List Nat} (h : NB B w v l) : ∃ a c, v = .slice a l.length c := by
  rcases h.2 with ⟨rfl, h0⟩ | ⟨g, cap, cur, rfl, hb, _⟩
  · exact ⟨none, 0, by rw [h0]⟩
  · exact ⟨_, cap, rfl⟩
set_option maxRecDepth 20000 in
set_option maxHeartbeats 1600000 in
theorem add_u32 (B : Nat) (v : Value) (l : List Nat) (x m : Nat) (w : World) (hx : x < 4294967296) (hm : m ≤ 4) (hl : l.length ≤ 100000) (hv : NB B w v l) (hB : B ≤ w.heap.size) :
    Calls Try.prog 45 #[v, .int .u32 (x : Int), .int .i64 (m : Int)] w
      fun e w' => ∃ v', e = .returned v' ∧ NB B w' v' (l ++ padded x m) ∧ Below B w w' ∧ KeepsT 5 w w' := by
  obtain ⟨i0, hi, hz0, hz1, hz2⟩ := info_parts Try.infoB
  have HX := Lib.hid hx
  have HV := Lib.hid hv
  have hvl := vints_len 4 x (by simp; omega)
  obtain ⟨a, c, hva⟩ := hv.form
  subst hva
  clear hx hv
  go_enter Try.func45, Try.ntmps45
  go_wp2_with fail
  go_loopw [0, 1] (fun cv xv wr => ∃ (y : Nat) (l1 : List Nat), xv = .int .u32 (y : Int) ∧ NB B wr cv l1 ∧ Hid (l1 ++ vints y = l ++ vints x) ∧ Below B w wr ∧ KeepsT 5 w wr ∧ y < 4294967296 ∧ l1.length ≤ l.length + 5) (fun _ xv _ => (intOf xv).toNat)
  case atStart => exact ⟨x, l, rfl, HV.out, rfl, Below.refl _ _, KeepsT.refl _ _, HX.out, by omega⟩
  case round =>
    obtain ⟨y, l1, rfl, hown, hq, hb, hk, hy, hl1⟩ := hrel
    obtain ⟨a1, c1, hva⟩ := hown.form
    subst hva
    have HO := Lib.hid hown
    have HB := Lib.hid hb
    have HK := Lib.hid hk
    have hsz := hb.size
    clear hown hb hk
    by_cases h : y < 128
    · have hd : decide (128 ≤ y) = false := by simp; omega
      have hd2 : decide ((128 : Int) ≤ (y : Int)) = false := by simp; omega
      have HS := Lib.hid (vints_small h)
      clear h
      have hy8 : (y : Int) % 256 = ((y : Nat) : Int) := by have := hd; simp at this; omega
      have HY8 := Lib.hid hy8
      clear hy8
      have hzb : B ≤ wr.heap.size := by omega
      go_wp2_with (at_builtin; refine wpList_append_one rfl (.tmp 22) (.tmp 25) 27 rfl _ B 5 i0 _ 1 Try.underlying27 hi hz0 hz1 hz2 rfl _ l1.length _ HO.out rfl (.int .u8 ((y : Int) % 256)) rfl rfl rfl (by unfold maxLen; omega) (by omega) hzb ?_)
      intro v2 w2 hown2 hb2 hg2
      rw [HY8.out] at hown2
      have hown2 := NB.more hown2
      rw [show l1 ++ [y] = l ++ vints x by rw [← hq.out, HS.out]] at hown2
      have HO2 := Lib.hid hown2
      have HB2 := Lib.hid (HB.out.trans hb2)
      have HK2 := Lib.hid (HK.out.trans (KeepsT.of_grown HO.out hg2))
      have hz2' := (HB2.out).size
      clear hown2 hb2 hg2 HO HB HK
      obtain ⟨a2, c2, hva2⟩ := HO2.out.form
      have hlx : (l ++ vints x).length = l.length + (vints x).length := by simp
      rw [hlx] at hva2
      subst hva2
      go_wp2_with fail
      go_loopw [0] (fun cv wr => ∃ k : Nat, NB B wr cv (l ++ vints x ++ List.replicate k 0) ∧ Below B w wr ∧ KeepsT 5 w wr ∧ k ≤ m - (vints x).length) (fun cv _ => 100020 - vlen cv)
      case atStart => exact ⟨0, by simpa using HO2.out, HB2.out, HK2.out, by omega⟩
      case round =>
        obtain ⟨k, hown3, hb3, hk3, hkm⟩ := hrel
        obtain ⟨a3, c3, hva3⟩ := hown3.form
        subst hva3
        have hlen3 : (l ++ vints x ++ List.replicate k 0).length = l.length + (vints x).length + k := by simp; omega
        rw [hlen3] at hown3
        have HO3 := Lib.hid hown3
        have HB3 := Lib.hid hb3
        have HK3 := Lib.hid hk3
        have hz3 := hb3.size
        have hzb3 : B ≤ wr.heap.size := by omega
        rw [hlen3]
        clear hown3 hb3 hk3 HB2 HK2 HO2
        by_cases hlt : (vints x).length + k < m
        · have ht : decide (((l.length + (vints x).length + k : Nat) : Int) < (l.length : Int) + (m : Int)) = true := by simp; omega
          go_wp2_with (at_builtin; refine wpList_append_one rfl (.tmp 31) (.tmp 32) 27 rfl _ B 5 i0 _ 1 Try.underlying27 hi hz0 hz1 hz2 rfl _ _ _ HO3.out rfl (.int .u8 0) rfl rfl rfl (by unfold maxLen; omega) (by omega) hzb3 ?_)
          intro v4 w4 hown4 hb4 hg4
          have hown4 : NB B w4 v4 (l ++ vints x ++ List.replicate k 0 ++ [0]) := NB.more (c := 0) (by simpa using hown4)
          rw [List.append_assoc (l ++ vints x), ← List.replicate_succ'] at hown4
          obtain ⟨a4, c4, hv4⟩ := hown4.form
          have hv4l : vlen v4 = l.length + (vints x).length + (k + 1) := by rw [hv4]; simp [vlen]; omega
          have HO4 := Lib.hid hown4
          have HB4 := Lib.hid (HB3.out.trans hb4)
          have HK4 := Lib.hid (HK3.out.trans (KeepsT.of_grown HO3.out hg4))
          have HL4 := Lib.hid hv4l
          clear hown4 hb4 hg4 hv4 hv4l HO3 HB3 HK3
          go_wp2
          go_round
          case rel => exact ⟨k + 1, HO4.out, HB4.out, HK4.out, by omega⟩
          case measure => show 100020 - vlen v4 < 100020 - (l.length + (vints x).length + k); rw [HL4.out]; omega
        · have ht : decide (((l.length + (vints x).length + k : Nat) : Int) < (l.length : Int) + (m : Int)) = false := by simp; omega
          have hk : k = m - (vints x).length := by omega
          go_wp2
          go_ret
          refine ⟨_, rfl, ?_, HB3.out, HK3.out⟩
          have ho := HO3.out
          unfold padded
          rw [← hk, ← List.append_assoc]
          exact ho
    · have hd : decide (128 ≤ y) = true := by simp; omega
      have hd2 : decide ((128 : Int) ≤ (y : Int)) = true := by simp; omega
      have HS := Lib.hid (vints_big (x := y) (by omega))
      have HY := Lib.hid (show 128 ≤ y by omega)
      clear h
      have hzb : B ≤ wr.heap.size := by omega
      go_wp2_with (at_builtin; refine wpList_append_one rfl (.tmp 14) (.tmp 18) 27 rfl _ B 5 i0 _ 1 Try.underlying27 hi hz0 hz1 hz2 rfl _ l1.length _ HO.out rfl (.int .u8 (bits .or .u8 ((y : Int) % 256) 128)) rfl rfl rfl (by unfold maxLen; omega) (by omega) hzb ?_)
      intro v2 w2 hown2 hb2 hg2
      rw [or_byte y] at hown2
      have HO2 := Lib.hid (NB.more hown2)
      have HB2 := Lib.hid (HB.out.trans hb2)
      have HK2 := Lib.hid (HK.out.trans (KeepsT.of_grown HO.out hg2))
      clear hown2 hb2 hg2 HO HB HK
      go_wp2
      go_round
      case rel => exact ⟨y / 128, l1 ++ [y % 128 + 128], by go_num, HO2.out, by have := hq.out; rw [HS.out] at this; simpa [Hid] using this, HB2.out, HK2.out, by omega, by have := congrArg List.length hq.out; rw [HS.out] at this; simp at this ⊢; omega⟩
      case measure => have := HY.out; simp [intOf]; omega
end Go.Proofs.Ytkddmiamdpbgiaa
