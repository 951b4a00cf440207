/- One byte written into a builder of texts. -/
import Derived.Test.YtghendoiohfolaaGreatDoorSBuf
import Derived.Test.YtghendoiohfolaaGreatDoorOwn
import Derived.Maps.AppendAt
namespace Go.Proofs.YtghendoiohfolaaGreatDoor
set_option linter.unusedSimpArgs false
set_option linter.unusedVariables false
set_option linter.unnecessarySimpa false
open Go.RowKit
/-- The builder's row does not lie in block y. -/
def Off (w : World) (b y : Nat) : Prop := ∀ v, w.cell? ⟨b, 1, none⟩ = some v → v.ownBlock ≠ some y
theorem SB.only {S : Nat → Prop} {w w' : World} {B b : Nat} {l : List UInt8} (h : SB w B b l) (k : Only S w w') (hb : ¬ S b) (hv : ∀ g, S g → Off w b g) : SB w' B b l := by
  have key : ∀ p, Lib.BuilderAt 65 5 B b p (Lib.byteCells l) w → Lib.BuilderAt 65 5 B b p (Lib.byteCells l) w' := by
    rintro p ⟨hB, v, hbk, hown, hne⟩
    have hlt : b < w.heap.size := (Array.getElem?_eq_some_iff.1 hbk).1
    have c1 : w.cell? ⟨b, 1, none⟩ = some v := by rw [Lib.cell_of_heap hbk]; rfl
    exact ⟨hB, v, (k.block b hlt hb).trans hbk, own_only hown k (fun g hg hs => hv g hs v c1 hg), hne⟩
  rcases h with h | h
  · exact .inl (key _ h)
  · exact .inr (key _ h)
theorem SB.lt {w : World} {B b : Nat} {l : List UInt8} (h : SB w B b l) : b < w.heap.size := by
  rcases h with ⟨_, v, hbk, _⟩ | ⟨_, v, hbk, _⟩ <;> exact (Array.getElem?_eq_some_iff.1 hbk).1
theorem SB.row_lt {w : World} {B b : Nat} {l : List UInt8} (h : SB w B b l) : ∀ y, w.heap.size ≤ y → Off w b y := by
  rcases h with ⟨_, v, hbk, ho, _⟩ | ⟨_, v, hbk, ho, _⟩
  all_goals
    intro y hy v' hc e
    rw [Lib.cell_of_heap hbk] at hc
    injection hc with hc
    have h1 : v = v' := hc
    subst h1
    have := (ho.lt y e).2
    omega
theorem SB.row_base {w : World} {B b : Nat} {l : List UInt8} (h : SB w B b l) : ∀ y, y < B → Off w b y := by
  rcases h with ⟨_, v, hbk, ho, _⟩ | ⟨_, v, hbk, ho, _⟩
  all_goals
    intro y hy v' hc e
    rw [Lib.cell_of_heap hbk] at hc
    injection hc with hc
    have h1 : v = v' := hc
    subst h1
    have := (ho.lt y e).1
    omega
theorem SB.row_blk {w : World} {B b g : Nat} {l : List UInt8} (h : SB w B b l) (hn : ¬ Off w b g) : ∃ cs, Blk w g 5 cs := by
  rcases h with ⟨_, v, hbk, ho, _⟩ | ⟨_, v, hbk, ho, _⟩
  all_goals
    by_cases e : v.ownBlock = some g
    · rcases ho.2 with ⟨rfl, _⟩ | ⟨g', cap, cur, rfl, _, hh, _⟩
      · simp [Value.ownBlock] at e
      · simp only [Value.ownBlock, Option.some.injEq] at e
        subst e
        exact ⟨cur, hh⟩
    · refine absurd (fun v' hc e' => ?_) hn
      rw [Lib.cell_of_heap hbk] at hc
      injection hc with hc
      have h1 : v = v' := hc
      subst h1
      exact e e'
theorem SB.blk {w : World} {B b : Nat} {l : List UInt8} (h : SB w B b l) : ∃ cs, Blk w b 65 cs := by
  rcases h with ⟨_, v, hbk, _⟩ | ⟨_, v, hbk, _⟩ <;> exact ⟨_, hbk⟩
theorem SB.base_le {w : World} {B b : Nat} {l : List UInt8} (h : SB w B b l) : B ≤ b := by
  rcases h with h | h <;> exact h.1
theorem Off.only {S : Nat → Prop} {w w' : World} {b y : Nat} (h : Off w b y) (k : Only S w w') (hb : ¬ S b) (hl : b < w.heap.size) : Off w' b y := fun v hc => h v (by
  have e : w'.cell? ⟨b, 1, none⟩ = w.cell? ⟨b, 1, none⟩ := by simp only [World.cell?, k.block b hl hb]
  exact e ▸ hc)
theorem check_any2 (B b : Nat) (l : List UInt8) (w : World) (h : SB w B b l) :
    Calls Tryz.prog 54 #[.pointer (some ⟨b, 0, none⟩)] w fun e w' => e = .returned (.tuple #[]) ∧ Lib.BuilderAt 65 5 B b (.pointer (some ⟨b, 0, none⟩)) (Lib.byteCells l) w' ∧ Below B w w' ∧ Only (· = b) w w' ∧ w'.cell? ⟨b, 1, none⟩ = w.cell? ⟨b, 1, none⟩ ∧ w'.heap.size = w.heap.size := by
  rcases h with h | h
  · refine (check_fresh b w h.cell0 h.shape h.frozen0).mono ?_
    rintro e w' ⟨rfl, rfl⟩
    exact ⟨rfl, h.used _, (Below.refl B w).setCell (p := ⟨b, 0, none⟩) h.1 _, (Only.refl (· = b) w).setCell (p := ⟨b, 0, none⟩) (.inl (rfl : b = b)) _, World.cell?_setCell_other _ ⟨b, 0, none⟩ ⟨b, 1, none⟩ _ (by simp), by simp⟩
  · refine (check_used b w h.cell0).mono ?_
    rintro e w' ⟨rfl, rfl⟩
    exact ⟨rfl, h, Below.refl B _, Only.refl _ _, rfl, rfl⟩
def WBPost (B b : Nat) (l : List UInt8) (c : UInt8) (w : World) (e : Ending) (w' : World) : Prop :=
  e = .returned .nilIface ∧ SB w' B b (l ++ [c]) ∧ Below B w w' ∧ (∀ y, y < w.heap.size → Off w b y → Off w' b y) ∧ (∀ S : Nat → Prop, S b → (∀ g, ¬ Off w b g → S g) → Only S w w')
set_option maxHeartbeats 2000000 in
set_option maxRecDepth 100000 in
theorem write_byte (B b : Nat) (l : List UInt8) (c : UInt8) (w : World) (h : SB w B b l) (hlen : l.length + 1 ≤ 140737488355328) (hBw : B ≤ w.heap.size) :
    Calls Tryz.prog 35 #[.pointer (some ⟨b, 0, none⟩), .int .u8 (c.toNat : Int)] w (WBPost B b l c w) := by
  obtain ⟨i0, hi, hz⟩ := Option.map_eq_some_iff.1 Tryz.infoB
  simp only [Prod.mk.injEq] at hz
  obtain ⟨hz0, hz1, hz2⟩ := hz
  obtain ⟨u, hu⟩ : ∃ u : Value, u = .int .u8 (c.toNat : Int) := ⟨_, rfl⟩
  obtain ⟨k, hk⟩ : ∃ k : Int, k = (c.toNat : Int) := ⟨_, rfl⟩
  rw [← hk] at hu ⊢
  have HK := Lib.hid hk
  have HU := Lib.hid hu
  clear hk hu
  go_enter Tryz.func35, Tryz.ntmps35
  go_wp2_with fail
  refine (check_any2 B b l _ h).mono ?_
  rintro e w1 ⟨rfl, h1, hb1, ho1, hc1, hs1⟩
  obtain ⟨hB, v, hbk, hown, hne⟩ := h1
  have c0 : w1.cell? ⟨b, 0, none⟩ = some (.pointer (some ⟨b, 0, none⟩)) := by rw [Lib.cell_of_heap hbk]; rfl
  have c1 : w1.cell? ⟨b, 1, none⟩ = some v := by rw [Lib.cell_of_heap hbk]; rfl
  have hbl : (Lib.byteCells l).length = l.length := Lib.byteCells_length l
  have HBL := Lib.hid hbl
  have hlt : b < w1.heap.size := by
    rcases Nat.lt_or_ge b w1.heap.size with h' | h'
    · exact h'
    · simp [Array.getElem?_eq_none h'] at hbk
  have HBK := Lib.hid hbk
  have HOWN := Lib.hid (hown.alloc (.cells #[.int .u8 k] 5))
  have HCW := Lib.hid (hc1.symm.trans c1)
  have HO1 := Lib.hid ho1
  have HS1 := Lib.hid hs1
  have HI := Lib.hid hi
  have HZ0 := Lib.hid hz0
  have HZ1 := Lib.hid hz1
  have HZ2 := Lib.hid hz2
  have hsz1 := hb1.size
  have hN : Hid (∀ (j : Nat) (x : Value), [u][j]? = some x → (w1.alloc (.cells #[.int .u8 k] 5)).cell? (Addr.add ⟨w1.heap.size, 0, none⟩ j) = some x) := by
    intro j x hj
    match j, hj with
    | 0, hj =>
      rw [Addr.add_lit, (Blk.new w1 5 #[.int .u8 k]).cell 0]
      simp at hj
      rw [← hj, HU.out]
      rfl
  clear hbl hbk hi hz0 hz1 hz2 hc1 ho1 hs1
  go_wp2_with (at_builtin; refine wpList_append_own_at _ rfl _ _ _ rfl B 5 i0 _ 1 1 Tryz.underlying24 HI.out HZ0.out HZ1.out HZ2.out rfl (by decide) v (Lib.byteCells l).length (Lib.byteCells l) rfl HOWN.out ⟨w1.heap.size, 0, none⟩ 1 1 [u] rfl rfl hN.out ?c0 ?c1 ?c2 ?c3 ?_)
  case c0 => intro x hx; simp at hx; subst hx; rw [HU.out]; rfl
  case c1 => rw [HBL.out]; unfold maxLen; omega
  case c2 => rw [HBL.out]; omega
  case c3 => simp; omega
  intro v' w2 hown' hgrow _ hat
  have hgk := hgrow.block
  have hb2k : w2.heap[b]? = some (.cells #[.pointer (some ⟨b, 0, none⟩), v] 65 (0, 0)) := by
    rw [hgrow.block b (by simp; omega) (fun e => hne e.symm)]
    exact (Below.heap_alloc w1 _ b hlt).trans HBK.out
  have d0 : w2.cell? ⟨b, 0, none⟩ = some (.pointer (some ⟨b, 0, none⟩)) := by rw [Lib.cell_of_heap hb2k]; rfl
  have d1 : w2.cell? ⟨b, 1, none⟩ = some v := by rw [Lib.cell_of_heap hb2k]; rfl
  have f1 : w2.frozen? ⟨b, 1, none⟩ = false := Lib.frozen_of_heap hb2k 1
  have hb2 : Below B w1 w2 := ((Below.refl B w1).alloc (by omega) _).grown hgrow (by simp; omega) (fun k hk => (HOWN.out.lt k hk).1)
  have ho2 : ∀ S : Nat → Prop, S b → (∀ g, ¬ Off w b g → S g) → Only S w w2 := fun S hSb hS =>
    ((HO1.out.mono (fun q _ e => by subst e; exact hSb)).alloc _).grown hgrow (fun g hg => .inl (hS g (fun h => h v HCW.out hg)))
  obtain ⟨ao, n', cap, rfl⟩ : ∃ ao n' cap, v' = .slice ao n' cap := by
    rcases hown'.2 with ⟨hv, _⟩ | ⟨g, cap, cur, hv, _⟩
    · exact ⟨_, _, _, hv⟩
    · exact ⟨_, _, _, hv⟩
  have HB2K := Lib.hid hb2k
  have HAT := Lib.hid hat
  have HO2 := Lib.hid ho2
  have H2 := Lib.hid hb2
  have HOWN2 := Lib.hid hown'
  clear hb2k hat ho2 hgk hgrow hb2 hown'
  go_wp2
  go_ret
  have e : Lib.byteCells (l ++ [c]) = Lib.byteCells l ++ [u] := by rw [HU.out, HK.out]; simp [Lib.byteCells]
  have hfin : Lib.BuilderAt 65 5 B b (.pointer (some ⟨b, 0, none⟩)) (Lib.byteCells (l ++ [c])) (w2.setCell ⟨b, 1, none⟩ (.slice ao n' cap)) := by
    rw [e]
    exact Lib.BuilderAt.put (T := 65) (e := 5) hB HB2K.out (bs' := Lib.byteCells l ++ [u]) (by rw [List.length_append]; exact HOWN2.out) (by decide)
  refine ⟨rfl, .inr hfin, (hb1.trans H2.out).setCell (p := ⟨b, 1, none⟩) hB _, ?_, fun S hSb hS => (HO2.out S hSb hS).setCell (p := ⟨b, 1, none⟩) (.inl hSb) _⟩
  intro y hy hoff v3 hc3 e3
  rw [World.cell?_setCell_same _ _ _ d1] at hc3
  injection hc3 with hc3
  subst hc3
  rcases HAT.out with h | h
  · exact hoff v HCW.out (h ▸ e3)
  · rw [h] at e3
    injection e3 with e3
    have := HS1.out
    have e4 : (w1.alloc (.cells #[.int .u8 k] 5)).heap.size = w1.heap.size + 1 := by simp
    omega
end Go.Proofs.YtghendoiohfolaaGreatDoor
