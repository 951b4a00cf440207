/- A text written into a builder: what stays. -/
import Derived.Test.YteibkaonofkcbaaGreatDoorSBuf
import Derived.Test.YteibkaonofkcbaaGreatDoorOwn
namespace Go.Proofs.YteibkaonofkcbaaGreatDoor
open Go.RowKit
/-- The builder's row does not lie in block y. -/
def Off (w : World) (b y : Nat) : Prop := ∀ v, w.cell? ⟨b, 1, none⟩ = some v → v.ownBlock ≠ some y
theorem SB.only {S : Nat → Prop} {w w' : World} {B b : Nat} {l : List UInt8} (h : SB w B b l) (k : Only S w w') (hb : ¬ S b) (hv : ∀ g, S g → Off w b g) : SB w' B b l := by
  have key : ∀ p, Lib.BuilderAt 98 5 B b p (Lib.byteCells l) w → Lib.BuilderAt 98 5 B b p (Lib.byteCells l) w' := by
    rintro p ⟨hB, v, hbk, hown, hne⟩
    have hlt : b < w.heap.size := (Array.getElem?_eq_some_iff.1 hbk).1
    have c1 : w.cell? ⟨b, 1, none⟩ = some v := by rw [Lib.cell_of_heap hbk]; rfl
    exact ⟨hB, v, (k.block b hlt hb).trans hbk, own_only hown k (fun g hg hs => hv g hs v c1 hg), hne⟩
  rcases h with h | h
  · exact .inl (key _ h)
  · exact .inr (key _ h)
theorem SB.lt {w : World} {B b : Nat} {l : List UInt8} (h : SB w B b l) : b < w.heap.size := by
  rcases h with ⟨_, v, hbk, _⟩ | ⟨_, v, hbk, _⟩ <;> exact (Array.getElem?_eq_some_iff.1 hbk).1
theorem SB.row_lt {w : World} {B b : Nat} {l : List UInt8} (h : SB w B b l) : ∀ y, w.heap.size ≤ y → Off w b y := by
  rcases h with ⟨_, v, hbk, ho, _⟩ | ⟨_, v, hbk, ho, _⟩
  all_goals
    intro y hy v' hc e
    rw [Lib.cell_of_heap hbk] at hc
    injection hc with hc
    have h1 : v = v' := hc
    subst h1
    have := (ho.lt y e).2
    omega
theorem SB.row_base {w : World} {B b : Nat} {l : List UInt8} (h : SB w B b l) : ∀ y, y < B → Off w b y := by
  rcases h with ⟨_, v, hbk, ho, _⟩ | ⟨_, v, hbk, ho, _⟩
  all_goals
    intro y hy v' hc e
    rw [Lib.cell_of_heap hbk] at hc
    injection hc with hc
    have h1 : v = v' := hc
    subst h1
    have := (ho.lt y e).1
    omega
theorem SB.row_blk {w : World} {B b g : Nat} {l : List UInt8} (h : SB w B b l) (hn : ¬ Off w b g) : ∃ cs, Blk w g 5 cs := by
  rcases h with ⟨_, v, hbk, ho, _⟩ | ⟨_, v, hbk, ho, _⟩
  all_goals
    by_cases e : v.ownBlock = some g
    · rcases ho.2 with ⟨rfl, _⟩ | ⟨g', cap, cur, rfl, _, hh, _⟩
      · simp [Value.ownBlock] at e
      · simp only [Value.ownBlock, Option.some.injEq] at e
        subst e
        exact ⟨cur, hh⟩
    · refine absurd (fun v' hc e' => ?_) hn
      rw [Lib.cell_of_heap hbk] at hc
      injection hc with hc
      have h1 : v = v' := hc
      subst h1
      exact e e'
theorem SB.blk {w : World} {B b : Nat} {l : List UInt8} (h : SB w B b l) : ∃ cs, Blk w b 98 cs := by
  rcases h with ⟨_, v, hbk, _⟩ | ⟨_, v, hbk, _⟩ <;> exact ⟨_, hbk⟩
theorem SB.base_le {w : World} {B b : Nat} {l : List UInt8} (h : SB w B b l) : B ≤ b := by
  rcases h with h | h <;> exact h.1
theorem Off.only {S : Nat → Prop} {w w' : World} {b y : Nat} (h : Off w b y) (k : Only S w w') (hb : ¬ S b) (hl : b < w.heap.size) : Off w' b y := fun v hc => h v (by
  have e : w'.cell? ⟨b, 1, none⟩ = w.cell? ⟨b, 1, none⟩ := by simp only [World.cell?, k.block b hl hb]
  exact e ▸ hc)
theorem check_any2 (B b : Nat) (l : List UInt8) (w : World) (h : SB w B b l) :
    Calls Tryz.prog 50 #[.pointer (some ⟨b, 0, none⟩)] w fun e w' => e = .returned (.tuple #[]) ∧ Lib.BuilderAt 98 5 B b (.pointer (some ⟨b, 0, none⟩)) (Lib.byteCells l) w' ∧ Below B w w' ∧ Only (· = b) w w' ∧ w'.cell? ⟨b, 1, none⟩ = w.cell? ⟨b, 1, none⟩ ∧ w'.heap.size = w.heap.size := by
  rcases h with h | h
  · refine (check_fresh b w h.cell0 h.shape h.frozen0).mono ?_
    rintro e w' ⟨rfl, rfl⟩
    exact ⟨rfl, h.used _, (Below.refl B w).setCell (p := ⟨b, 0, none⟩) h.1 _, (Only.refl (· = b) w).setCell (p := ⟨b, 0, none⟩) (.inl (rfl : b = b)) _, World.cell?_setCell_other _ ⟨b, 0, none⟩ ⟨b, 1, none⟩ _ (by simp), by simp⟩
  · refine (check_used b w h.cell0).mono ?_
    rintro e w' ⟨rfl, rfl⟩
    exact ⟨rfl, h, Below.refl B _, Only.refl _ _, rfl, rfl⟩
set_option maxHeartbeats 2000000 in
set_option maxRecDepth 100000 in
theorem write_string2 (B b : Nat) (l : List UInt8) (s : ByteArray) (w : World) (h : SB w B b l) (hlen : l.length + s.size ≤ 140737488355328) (hBw : B ≤ w.heap.size) :
    Calls Tryz.prog 39 #[.pointer (some ⟨b, 0, none⟩), .string s] w fun e w' => e = .returned (.tuple #[.int .i64 s.size, .nilIface]) ∧ SB w' B b (l ++ s.data.toList) ∧ Below B w w' ∧ Only (fun g => g = b ∨ ¬ Off w b g) w w' := by
  obtain ⟨i0, hi, hz⟩ := Option.map_eq_some_iff.1 Tryz.infoB
  simp only [Prod.mk.injEq] at hz
  obtain ⟨hz0, hz1, hz2⟩ := hz
  go_enter Tryz.func39, Tryz.ntmps39
  go_wp2_with fail
  refine (check_any2 B b l _ h).mono ?_
  rintro e w1 ⟨rfl, h1, hb1, ho1, hc1, hs1⟩
  obtain ⟨hB, v, hbk, hown, hne⟩ := h1
  have c0 : w1.cell? ⟨b, 0, none⟩ = some (.pointer (some ⟨b, 0, none⟩)) := by rw [Lib.cell_of_heap hbk]; rfl
  have c1 : w1.cell? ⟨b, 1, none⟩ = some v := by rw [Lib.cell_of_heap hbk]; rfl
  have HCW := Lib.hid (hc1.symm.trans c1)
  have HO1 := Lib.hid ho1
  clear ho1 hc1 hs1
  have hbl : (Lib.byteCells l).length = l.length := Lib.byteCells_length l
  go_wp2_with (at_builtin; refine Lib.wpList_append_own_string _ rfl _ _ 25 9 rfl B 5 i0 Tryz.underlying25 Tryz.underlying9 hi hz0 hz1 hz2 _ _ _ rfl hown s rfl ?c3 ?c4 ?c5 ?_)
  case c3 => unfold maxLen; omega
  case c4 => omega
  case c5 => have := hb1.size; omega
  intro v' w2 hown' hgrow _
  have HO2 : Hid (Only (fun g => g = b ∨ ¬ Off w b g) w w2) := (HO1.out.mono (fun q _ e => .inl e)).grown hgrow (fun g hg => .inl (.inr (fun h => h v HCW.out hg)))
  have hlt : b < w1.heap.size := by
    rcases Nat.lt_or_ge b w1.heap.size with h' | h'
    · exact h'
    · simp [Array.getElem?_eq_none h'] at hbk
  have hb2 : w2.heap[b]? = some (.cells #[.pointer (some ⟨b, 0, none⟩), v] 98 (0, 0)) := by
    rw [hgrow.block b hlt (fun e => hne e.symm)]
    exact hbk
  have d0 : w2.cell? ⟨b, 0, none⟩ = some (.pointer (some ⟨b, 0, none⟩)) := by rw [Lib.cell_of_heap hb2]; rfl
  have d1 : w2.cell? ⟨b, 1, none⟩ = some v := by rw [Lib.cell_of_heap hb2]; rfl
  have f1 : w2.frozen? ⟨b, 1, none⟩ = false := Lib.frozen_of_heap hb2 1
  obtain ⟨ao, n', cap, rfl⟩ : ∃ ao n' cap, v' = .slice ao n' cap := by
    rcases hown'.2 with ⟨hv, _⟩ | ⟨g, cap, cur, hv, _⟩
    · exact ⟨_, _, _, hv⟩
    · exact ⟨_, _, _, hv⟩
  go_wp2
  go_ret2
  refine ⟨rfl, .inr ?_, ?_, HO2.out.setCell (p := ⟨b, 1, none⟩) (.inl (.inl rfl)) _⟩
  · have e : Lib.byteCells (l ++ s.data.toList) = Lib.byteCells l ++ Lib.strCells s := by simp [Lib.byteCells, Lib.strCells]
    rw [e]
    exact Lib.BuilderAt.put (T := 98) (e := 5) hB hb2 (bs' := Lib.byteCells l ++ Lib.strCells s) (by rw [List.length_append, Lib.strCells_length, hbl]; exact hown') (by decide)
  · exact (hb1.grown hgrow (by have := hb1.size; omega) (fun k hk => (hown.lt k hk).1)).setCell (p := ⟨b, 1, none⟩) hB _
end Go.Proofs.YteibkaonofkcbaaGreatDoor
