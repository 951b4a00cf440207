/- The reference's scanner: its state, the byte at a place, going on by some bytes. -/
import Derived.Test.YtghendoiohfolaaGreatDoorShelf
import Derived.Test.YtghendoiohfolaaGreatDoorUnqBody
import Derived.Test.YtghendoiohfolaaGreatDoorOwn2
import Derived.Lib.OthersKept
import Derived.Lib.RuneCount
import Derived.Laws.RangeAny
import Derived.Laws.RangeString
import Derived.Deep.QuietTactic
import Derived.BigQuiet
import Derived.StillTailTactics
import Derived.WalkSpells
import Derived.WalkLawsBesides
namespace Go.Proofs.YtghendoiohfolaaGreatDoor
set_option linter.unusedSimpArgs false
set_option linter.unusedVariables false
set_option linter.unnecessarySimpa false
open Go.RowKit
/-- The scanner's state: its text, where it stands, its line and column, whether a line begins, the blocks, what was put out, the verdict. No bracket is open. -/
def Sc (w : World) (X : Nat) (s : ByteArray) (at_ ln cl : Int) (bg : Bool) (bk ov : Value) (vd : Int) : Prop :=
  Blk w X 51 #[.string s, .int .i64 at_, .int .i64 ln, .int .i64 cl, .bool bg, .slice none 0 0, bk, ov, .int .i64 vd]
section
variable {w w' : World} {X : Nat} {s : ByteArray} {at_ ln cl vd : Int} {bg : Bool} {bk ov : Value}
theorem Sc.cells (h : Sc w X s at_ ln cl bg bk ov vd) : w.cell? ⟨X, 0, none⟩ = some (.string s) ∧ w.cell? ⟨X, 1, none⟩ = some (.int .i64 at_) ∧ w.cell? ⟨X, 2, none⟩ = some (.int .i64 ln) ∧ w.cell? ⟨X, 3, none⟩ = some (.int .i64 cl) ∧
    w.cell? ⟨X, 4, none⟩ = some (.bool bg) ∧ w.cell? ⟨X, 5, none⟩ = some (.slice none 0 0) ∧ w.cell? ⟨X, 6, none⟩ = some bk ∧ w.cell? ⟨X, 7, none⟩ = some ov ∧ w.cell? ⟨X, 8, none⟩ = some (.int .i64 vd) :=
  ⟨(Blk.cell h 0).trans rfl, (Blk.cell h 1).trans rfl, (Blk.cell h 2).trans rfl, (Blk.cell h 3).trans rfl, (Blk.cell h 4).trans rfl, (Blk.cell h 5).trans rfl, (Blk.cell h 6).trans rfl, (Blk.cell h 7).trans rfl, (Blk.cell h 8).trans rfl⟩
theorem Sc.fz (h : Sc w X s at_ ln cl bg bk ov vd) (i : Nat) : w.frozen? ⟨X, i, none⟩ = false := Blk.frozen h i
theorem Sc.lt (h : Sc w X s at_ ln cl bg bk ov vd) : X < w.heap.size := Blk.lt h
theorem Sc.drewN (h : Sc w X s at_ ln cl bg bk ov vd) (n : Nat) : Sc (w.drewN n) X s at_ ln cl bg bk ov vd := h
theorem Sc.drew (h : Sc w X s at_ ln cl bg bk ov vd) : Sc w.drew X s at_ ln cl bg bk ov vd := h
theorem Sc.only {S : Nat → Prop} (h : Sc w X s at_ ln cl bg bk ov vd) (k : Only S w w') (hs : ¬ S X) : Sc w' X s at_ ln cl bg bk ov vd := Blk.only h k hs
theorem Sc.below (h : Sc w X s at_ ln cl bg bk ov vd) (hb : Below w.heap.size w w') : Sc w' X s at_ ln cl bg bk ov vd := Blk.below h hb (Blk.lt h)
theorem Sc.alloc (h : Sc w X s at_ ln cl bg bk ov vd) (o : Obj) : Sc (w.alloc o) X s at_ ln cl bg bk ov vd := Blk.alloc h o
theorem Sc.put1 (h : Sc w X s at_ ln cl bg bk ov vd) (u : Int) : Sc (w.setCell ⟨X, 1, none⟩ (.int .i64 u)) X s u ln cl bg bk ov vd := Blk.put h 1 _
theorem Sc.put2 (h : Sc w X s at_ ln cl bg bk ov vd) (u : Int) : Sc (w.setCell ⟨X, 2, none⟩ (.int .i64 u)) X s at_ u cl bg bk ov vd := Blk.put h 2 _
theorem Sc.put3 (h : Sc w X s at_ ln cl bg bk ov vd) (u : Int) : Sc (w.setCell ⟨X, 3, none⟩ (.int .i64 u)) X s at_ ln u bg bk ov vd := Blk.put h 3 _
theorem Sc.put4 (h : Sc w X s at_ ln cl bg bk ov vd) (u : Bool) : Sc (w.setCell ⟨X, 4, none⟩ (.bool u)) X s at_ ln cl u bk ov vd := Blk.put h 4 _
theorem Sc.put7 (h : Sc w X s at_ ln cl bg bk ov vd) (u : Value) : Sc (w.setCell ⟨X, 7, none⟩ u) X s at_ ln cl bg bk u vd := Blk.put h 7 _
theorem Sc.put8 (h : Sc w X s at_ ln cl bg bk ov vd) (u : Int) : Sc (w.setCell ⟨X, 8, none⟩ (.int .i64 u)) X s at_ ln cl bg bk ov u := Blk.put h 8 _
theorem Sc.far (h : Sc w X s at_ ln cl bg bk ov vd) {p : Addr} (hp : X ≠ p.block) (u : Value) : Sc (w.setCell p u) X s at_ ln cl bg bk ov vd := Blk.far h hp u
end
theorem Only.iterAt {S : Nat → Prop} {w w' : World} (h : Only S w w') {k : Nat} (hk : w.heap.size ≤ k) (s : ByteArray) (pos : Nat) : Only S w (w'.iterAt k s pos) :=
  ⟨h.os, h.tape, h.output, by rw [Lib.iterAt_size]; exact h.size, fun i hi hs => (Lib.iterAt_other w' k i s pos (by omega)).trans (h.block i hi hs)⟩
theorem blk_iter {w : World} {g k : Nat} {t : TypeId} {cs : Array Value} (h : Blk w g t cs) (hk : g ≠ k) (s : ByteArray) (pos : Nat) : Blk (w.iterAt k s pos) g t cs := (Lib.iterAt_other w k g s pos hk).trans h
set_option maxHeartbeats 1000000 in
/-- The byte so many behind the place. -/
theorem peek_any {w : World} {X : Nat} {s : ByteArray} {ln cl vd : Int} {bg : Bool} {bk ov : Value} (a n : Nat) (h : Sc w X s a ln cl bg bk ov vd) (hs : s.size ≤ 100000) (ha : a ≤ 100000) (hn : n ≤ 100000) :
    Calls Tryz.prog 20 #[.pointer (some ⟨X, 0, none⟩), .int .i64 n] w fun e w' => e = .returned (.int .u8 ((pk s.data.toList (a + n)).toNat : Int)) ∧ ∃ m, w' = w.drewN m := by
  obtain ⟨c0, c1, -, -, -, -, -, -, -⟩ := h.cells
  have hXl := h.lt
  clear h
  by_cases hlt : a + n < s.size
  · have HR : Hid (pk s.data.toList (a + n) = s[a + n]) := by unfold Hid; rw [pk_at (by simpa using hlt)]; rfl
    have hd : decide ((a : Int) + (n : Int) < (s.size : Int)) = true := by simp; omega
    have g1 : (a : Int) + (n : Int) < (s.size : Int) := by omega
    have g0 : (0 : Int) ≤ (a : Int) + (n : Int) := by omega
    go_enter Tryz.func20, Tryz.ntmps20
    go_wp2
    go_quiet (fail)
    go_wp2
    go_quiet (fail)
    go_wp2
    go_ret
    rw [HR.out]
    exact ⟨rfl, _, World.drewN_drewN _ _ _⟩
  · have HR : Hid (pk s.data.toList (a + n) = 0) := by unfold Hid; rw [pk_out (by simp; omega)]
    have hd : decide ((a : Int) + (n : Int) < (s.size : Int)) = false := by simp; omega
    go_enter Tryz.func20, Tryz.ntmps20
    go_wp2
    go_quiet (fail)
    go_wp2
    go_ret
    rw [HR.out]
    exact ⟨rfl, _, rfl⟩
/-- What going on leaves: the scanner behind n bytes. -/
def MovePost (X : Nat) (s : ByteArray) (a n : Nat) (bg : Bool) (bk ov : Value) (vd : Int) (w : World) (e : Ending) (w' : World) : Prop :=
  e = .returned (.tuple #[]) ∧ (∃ l c, Sc w' X s ((a + n : Nat) : Int) l c bg bk ov vd) ∧ Only (· = X) w w'
def MoveI (X : Nat) (s t : ByteArray) (a k : Nat) (bg : Bool) (bk ov : Value) (vd : Int) (w wr : World) : Prop :=
  ∃ (p : Nat) (l c : Int), Hid (wr.heap[k]? = some (.stringIter t p)) ∧ Hid (Sc wr X s a l c bg bk ov vd) ∧ Hid (Only (· = X) w wr)
set_option maxRecDepth 20000 in
set_option maxHeartbeats 4000000 in
theorem move_any {w : World} {X : Nat} {s : ByteArray} {ln cl vd : Int} {bg : Bool} {bk ov : Value} (a n : Nat) (h : Sc w X s a ln cl bg bk ov vd) (hs : s.size ≤ 100000) (ha : a + n ≤ s.size) :
    Calls Tryz.prog 21 #[.pointer (some ⟨X, 0, none⟩), .int .i64 n] w (MovePost X s a n bg bk ov vd w) := by
  have HS := Lib.hid h
  obtain ⟨c0, c1, -, -, -, -, -, -, -⟩ := h.cells
  have hXl := h.lt
  clear h
  obtain ⟨m, hm⟩ : ∃ m : Nat, (a : Int) + (n : Int) = (m : Int) := ⟨a + n, by omega⟩
  have HM : Hid (m = a + n) := by unfold Hid; omega
  have hw1 : IntKind.i64.wrap ((a : Int) + (n : Int)) = (m : Int) := by rw [hm]; exact IntWalk.i64_in _ (by omega)
  have g1 : (m : Int) ≤ (s.size : Int) := by omega
  have g2 : (a : Int) ≤ (m : Int) := by omega
  have g3 : (0 : Int) ≤ (a : Int) := by omega
  have g4 : a ≤ m := by omega
  have g5 : m ≤ s.size := by omega
  clear hm
  go_enter Tryz.func21, Tryz.ntmps21
  go_wp2_with fail
  go_still_tail 15, (by kernel_rfl)
  go_wp2_with fail
  obtain ⟨t, ht⟩ : ∃ t, t = s.extract a m := ⟨_, rfl⟩
  rw [← ht]
  obtain ⟨k, hk⟩ : ∃ k, k = w.heap.size := ⟨_, rfl⟩
  obtain ⟨w1, hw1⟩ : ∃ w1, w1 = w.drew.iter t 0 := ⟨_, rfl⟩
  have HIT : Hid (w1.heap[k]? = some (.stringIter t 0)) := by rw [hw1, hk]; exact World.iter_heap w.drew t 0
  have HSC1 : Hid (Sc w1 X s a ln cl bg bk ov vd) := by rw [hw1]; exact HS.out.drew.alloc _
  have HON1 : Hid (Only (· = X) w w1) := by rw [hw1]; exact ((Only.refl _ w).drew).alloc _
  have HK := Lib.hid hk
  have hXk : X ≠ k := by omega
  have hkX : w.heap.size ≤ k := by omega
  first | rw [← hk] | skip
  first | rw [← hw1] | skip
  clear hk hw1 ht
  go_loopw [5] (fun _ wr => MoveI X s t a k bg bk ov vd w wr) (fun _ wr => t.size - wr.iterPos k)
  case atStart => exact ⟨0, ln, cl, HIT, HSC1, HON1⟩
  case round =>
    obtain ⟨p, l, c, hit, hsc, hon⟩ := hrel
    obtain ⟨wo, rfl⟩ : ∃ wo : World, wo = wr := ⟨_, rfl⟩
    by_cases hlt : p < t.size
    · have hnx := fun ty => Lib.run_next_any_at (P := Tryz.prog) wo k t p ty hit.out hlt
      obtain ⟨r, hr⟩ : ∃ r : Nat, r = (Utf8.decode t p).1 := ⟨_, rfl⟩
      obtain ⟨q, hq⟩ : ∃ q : Nat, q = p + (Utf8.decode t p).2 := ⟨_, rfl⟩
      have hq1 : p < q := by have := Lib.decode_width_pos t p hlt; omega
      rw [← hr, ← hq] at hnx
      obtain ⟨w2, hw2⟩ : ∃ w2, w2 = wo.iterAt k t q := ⟨_, rfl⟩
      rw [← hw2] at hnx
      have HIT2 : Hid (w2.heap[k]? = some (.stringIter t q)) := by rw [hw2]; exact Lib.iterAt_heap wo k t p q hit.out
      have HSC2 : Hid (Sc w2 X s a l c bg bk ov vd) := by rw [hw2]; exact blk_iter hsc.out hXk t q
      have HON2 : Hid (Only (· = X) w w2) := by rw [hw2]; exact hon.out.iterAt hkX t q
      clear hw2 hr hq
      obtain ⟨-, d1, d2, d3, -, -, -, -, -⟩ := HSC2.out.cells
      have f2 := HSC2.out.fz 2
      have f3 := HSC2.out.fz 3
      have HW0 : Hid (wo.iterPos k = p) := by unfold Hid World.iterPos; rw [hit.out]
      go_wp2
      all_goals
        go_roundw
        case rel =>
          first
          | exact ⟨q, _, _, by unfold Hid; rw [World.setCell, Array.getElem?_modify, if_neg hXk]; exact HIT2.out, HSC2.out.put3 _, HON2.out.setCell (p := ⟨X, 3, none⟩) (.inl rfl) _⟩
          | exact ⟨q, _, _, by unfold Hid; simp [World.setCell, Array.getElem?_modify, hXk, HIT2.out], ((HSC2.out.put3 _).put2 _).put3 _, ((HON2.out.setCell (p := ⟨X, 3, none⟩) (.inl rfl) _).setCell (p := ⟨X, 2, none⟩) (.inl rfl) _).setCell (p := ⟨X, 3, none⟩) (.inl rfl) _⟩
        case measure =>
          have e1 : ∀ W : World, W.heap[k]? = some (.stringIter t q) → W.iterPos k = q := fun W h => by unfold World.iterPos; rw [h]
          rw [HW0.out, e1 _ (by simp [World.setCell, Array.getElem?_modify, hXk, HIT2.out])]
          omega
    · have hnx := fun ty => Lib.run_next_end_at (P := Tryz.prog) wo k t p ty hit.out hlt
      obtain ⟨-, d1, d2, d3, -, -, -, -, -⟩ := hsc.out.cells
      have f1 := hsc.out.fz 1
      go_wp2
      go_end0
      have e : ((a + n : Nat) : Int) = (m : Int) := by rw [HM.out]
      rw [MovePost, e]
      exact ⟨rfl, ⟨l, c, hsc.out.put1 _⟩, hon.out.setCell (p := ⟨X, 1, none⟩) (.inl rfl) _⟩
end Go.Proofs.YtghendoiohfolaaGreatDoor
