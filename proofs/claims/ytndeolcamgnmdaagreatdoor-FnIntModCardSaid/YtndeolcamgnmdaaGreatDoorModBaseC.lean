/- Joined texts: Be, Words, Norm, SetBytes, BigInt, BitLen. -/
import Derived.Test.YtndeolcamgnmdaaGreatDoorModBaseB
import Derived.Lib.EndianBits
import Derived.WalkSpells
import Derived.Lib.Builder
import Derived.Lib.BitFns
import Derived.Laws.Bits64b
set_option linter.unusedVariables false
set_option linter.unusedSimpArgs false
set_option linter.unnecessarySimpa false
namespace Go.Proofs.YtndeolcamgnmdaaGreatDoor
open Go.RowKit
set_option maxRecDepth 20000 in
set_option maxHeartbeats 2000000 in
theorem be32 (g o n c b0 b1 b2 b3 : Nat) (h0 : b0 < 256) (h1 : b1 < 256) (h2 : b2 < 256) (h3 : b3 < 256) (hn : 4 ≤ n) (w : World)
    (c0 : w.cell? ⟨g, o, none⟩ = some (.int .u8 (b0 : Int))) (c1 : w.cell? ⟨g, o + 1, none⟩ = some (.int .u8 (b1 : Int))) (c2 : w.cell? ⟨g, o + 2, none⟩ = some (.int .u8 (b2 : Int))) (c3 : w.cell? ⟨g, o + 3, none⟩ = some (.int .u8 (b3 : Int))) :
    Calls Tryz.prog 63 #[.slice (some ⟨g, o, none⟩) n c] w fun e w' => e = .returned (.int .u32 ((natOf [b0, b1, b2, b3] : Nat) : Int)) ∧ ∃ q, w' = w.drewN q := by
  have hn' : (3 : Int) < (n : Int) := by omega
  have hn2 : (2 : Int) < (n : Int) := by omega
  have hn1 : (1 : Int) < (n : Int) := by omega
  have hn0 : (0 : Int) < (n : Int) := by omega
  go_enter Tryz.func63, Tryz.ntmps63
  go_wp2_with fail
  go_quiet (fail)
  go_wp2
  go_ret
  refine ⟨ret_int ?_, _, rfl⟩
  have e1 := u32_or8 (y := (b3 : Int)) (x := (b2 : Int) * 256) (by omega) (by omega) (by omega) (by omega) (by omega)
  have e2 := u32_or16 (y := (b3 : Int) + (b2 : Int) * 256) (x := (b1 : Int) * 65536) (by omega) (by omega) (by omega) (by omega) (by omega)
  have e3 := u32_or24 (y := (b3 : Int) + (b2 : Int) * 256 + (b1 : Int) * 65536) (x := (b0 : Int) * 16777216) (by omega) (by omega) (by omega) (by omega) (by omega)
  rw [e1, e2, e3]
  simp only [natOf, List.length_cons, List.length_nil]
  omega
theorem slice_from_at (w : World) (g o n cap k : Nat) (hk : k < n) (hc : n ≤ cap) :
    (Instr.slice 22 (.slice (some ⟨g, o, none⟩) n cap) (some (.int .i64 (k : Int))) none none).run Tryz.prog w = .ok (.slice (some ⟨g, o + k, none⟩) (n - k) (cap - k)) w := by
  rw [slice_from w _ n cap k (by omega), if_neg (by omega)]
  simp [Addr.add_lit]
set_option maxRecDepth 20000 in
set_option maxHeartbeats 600000 in
theorem be64 (g o n c b0 b1 b2 b3 b4 b5 b6 b7 : Nat) (h0 : b0 < 256) (h1 : b1 < 256) (h2 : b2 < 256) (h3 : b3 < 256) (h4 : b4 < 256) (h5 : b5 < 256) (h6 : b6 < 256) (h7 : b7 < 256) (hn : 8 ≤ n) (hc : n ≤ c) (w : World)
    (c0 : w.cell? ⟨g, o, none⟩ = some (.int .u8 (b0 : Int))) (c1 : w.cell? ⟨g, o + 1, none⟩ = some (.int .u8 (b1 : Int))) (c2 : w.cell? ⟨g, o + 2, none⟩ = some (.int .u8 (b2 : Int))) (c3 : w.cell? ⟨g, o + 3, none⟩ = some (.int .u8 (b3 : Int)))
    (c4 : w.cell? ⟨g, o + 4, none⟩ = some (.int .u8 (b4 : Int))) (c5 : w.cell? ⟨g, o + 4 + 1, none⟩ = some (.int .u8 (b5 : Int))) (c6 : w.cell? ⟨g, o + 4 + 2, none⟩ = some (.int .u8 (b6 : Int))) (c7 : w.cell? ⟨g, o + 4 + 3, none⟩ = some (.int .u8 (b7 : Int))) (c7' : w.cell? ⟨g, o + 7, none⟩ = some (.int .u8 (b7 : Int))) :
    Calls Tryz.prog 62 #[.slice (some ⟨g, o, none⟩) n c] w fun e w' => e = .returned (.int .u64 ((natOf [b0, b1, b2, b3, b4, b5, b6, b7] : Nat) : Int)) ∧ ∃ q, w' = w.drewN q := by
  have hn' : (7 : Int) < (n : Int) := by omega
  have hsl := fun W => slice_from_at W g o n c 4 (by omega) hc
  obtain ⟨hi, hhi⟩ : ∃ hi, hi = natOf [b0, b1, b2, b3] := ⟨_, rfl⟩
  obtain ⟨lo, hlo⟩ : ∃ lo, lo = natOf [b4, b5, b6, b7] := ⟨_, rfl⟩
  have hhi4 : hi < 4294967296 := by rw [hhi]; simp only [natOf, List.length_cons, List.length_nil]; omega
  have hlo4 : lo < 4294967296 := by rw [hlo]; simp only [natOf, List.length_cons, List.length_nil]; omega
  have k1 := Lib.hid (fun q => be32 g o n c b0 b1 b2 b3 h0 h1 h2 h3 (by omega) (w.drewN q) (by simpa using c0) (by simpa using c1) (by simpa using c2) (by simpa using c3))
  have k2 := Lib.hid (fun q => be32 g (o + 4) (n - 4) (c - 4) b4 b5 b6 b7 h4 h5 h6 h7 (by omega) (w.drewN q) (by simpa using c4) (by simpa using c5) (by simpa using c6) (by simpa using c7))
  rw [← hhi] at k1
  rw [← hlo] at k2
  have HF : Hid (natOf [b0, b1, b2, b3, b4, b5, b6, b7] = lo + hi * 4294967296) := by
    unfold Hid
    rw [hhi, hlo]
    simp only [natOf, List.length_cons, List.length_nil]
    omega
  clear hhi hlo c0 c1 c2 c3 c4 c5 c6 c7
  go_enter Tryz.func62, Tryz.ntmps62
  go_wp2_with fail
  go_quiet ((go_at_call 63; first | (with_reducible exact Calls.quiet_of (k1.out _)) | (with_reducible exact Calls.quiet_of (k2.out _))))
  go_wp2
  go_ret
  refine ⟨ret_int ?_, _, rfl⟩
  have e1 := u64_or32 (y := (lo : Int)) (x := (hi : Int) * 4294967296) (by omega) (by omega) (by omega) (by omega) (by omega)
  have ec : bits .or .u64 ((hi : Int) * 4294967296) (lo : Int) = bits .or .u64 (lo : Int) ((hi : Int) * 4294967296) := by simp only [bits, BitVec.or_comm]
  rw [ec, e1, HF.out]
  omega
theorem be_word (g o n c : Nat) (l : List Nat) (hl : l.length = 8) (hb : ∀ x ∈ l, x < 256) (hn : 8 ≤ n) (hc : n ≤ c) (w : World) (hcell : ∀ j (h : j < l.length), w.cell? ⟨g, o + j, none⟩ = some (.int .u8 ((l[j]'h : Nat) : Int))) :
    Calls Tryz.prog 48 #[.slice (some ⟨g, o, none⟩) n c] w fun e w' => e = .returned (.int .u64 ((natOf l : Nat) : Int)) ∧ ∃ q, w' = w.drewN q := by
  match l, hl with
  | [b0, b1, b2, b3, b4, b5, b6, b7], _ =>
    have k := Lib.hid (be64 g o n c b0 b1 b2 b3 b4 b5 b6 b7 (hb _ (by simp)) (hb _ (by simp)) (hb _ (by simp)) (hb _ (by simp)) (hb _ (by simp)) (hb _ (by simp)) (hb _ (by simp)) (hb _ (by simp)) hn hc w
      (by simpa using hcell 0 (by simp)) (by simpa using hcell 1 (by simp)) (by simpa using hcell 2 (by simp)) (by simpa using hcell 3 (by simp)) (by simpa using hcell 4 (by simp)) (by simpa [Nat.add_assoc] using hcell 5 (by simp)) (by simpa [Nat.add_assoc] using hcell 6 (by simp)) (by simpa [Nat.add_assoc] using hcell 7 (by simp)) (by simpa using hcell 7 (by simp)))
    clear hcell hb
    obtain ⟨N, hN⟩ : ∃ N, N = natOf [b0, b1, b2, b3, b4, b5, b6, b7] := ⟨_, rfl⟩
    rw [← hN] at k ⊢
    clear hN
    go_enter Tryz.func48, Tryz.ntmps48
    go_wp2_with fail
    refine k.out.mono ?_
    rintro e w1 ⟨rfl, q, rfl⟩
    go_wp2
    go_ret
    exact ⟨rfl, q, rfl⟩
end Go.Proofs.YtndeolcamgnmdaaGreatDoor
namespace Go.Proofs.YtndeolcamgnmdaaGreatDoor
open Go.RowKit
def wcells (l : List Nat) : List Value := l.map fun (x : Nat) => Value.int .u64 (x : Int)
@[simp] theorem wcells_len (l : List Nat) : (wcells l).length = l.length := by simp [wcells]
/-- v is a slice of words of its own, above B. -/
def OW (w : World) (B : Nat) (v : Value) (l : List Nat) : Prop := w.ownsRow B 83 1 v l.length (wcells l) ∧ ∀ x ∈ l, x < W64
theorem OW.form {w : World} {B : Nat} {v : Value} {l : List Nat} (h : OW w B v l) : (v = .slice none 0 0 ∧ l = []) ∨ ∃ g cap, v = .slice (some ⟨g, 0, none⟩) l.length cap ∧ B ≤ g ∧ g < w.heap.size ∧ l.length ≤ cap ∧ cap ≤ maxLen := by
  rcases h.1.2 with ⟨hv, h0⟩ | ⟨g, cap, cur, hv, hb, hh, h1, h2, _⟩
  · exact .inl ⟨hv, List.eq_nil_of_length_eq_zero h0⟩
  · exact .inr ⟨g, cap, hv, hb, (Array.getElem?_eq_some_iff.1 hh).1, h1, h2⟩
theorem OW.below {w w' : World} {B : Nat} {v : Value} {l : List Nat} (h : OW w B v l) (hb : Below w.heap.size w w') : OW w' B v l := ⟨own_below h.1 hb, h.2⟩
theorem OW.base {w : World} {B C : Nat} {v : Value} {l : List Nat} (h : OW w B v l) (hC : C ≤ B) : OW w C v l := by
  refine ⟨⟨h.1.1, ?_⟩, h.2⟩
  rcases h.1.2 with h0 | ⟨g, cap, cur, hv, hb, hrest⟩
  · exact .inl h0
  · exact .inr ⟨g, cap, cur, hv, Nat.le_trans hC hb, hrest⟩
theorem OW.only {w w' : World} {B : Nat} {S : Nat → Prop} {v : Value} {l : List Nat} (h : OW w B v l) (k : Only S w w') (hs : ∀ g, B ≤ g → ¬ S g) : OW w' B v l :=
  ⟨own_only h.1 k fun g hg => hs g (h.1.lt g hg).1, h.2⟩
theorem OW.cell {w : World} {B g c : Nat} {l : List Nat} {n : Nat} (h : OW w B (.slice (some ⟨g, 0, none⟩) n c) l) (j : Nat) (hj : j < l.length) : w.cell? ⟨g, j, none⟩ = some (.int .u64 ((l[j]'hj : Nat) : Int)) := by
  have h1 := h.1.cells (g := g) rfl j (.int .u64 ((l[j]'hj : Nat) : Int)) (by simp [wcells, hj])
  rw [Addr.add_lit, Nat.zero_add] at h1
  exact h1
theorem OW.len {w : World} {B g c : Nat} {l : List Nat} {n : Nat} (h : OW w B (.slice (some ⟨g, 0, none⟩) n c) l) : n = l.length := by
  rcases h.form with ⟨hv, _⟩ | ⟨_, _, hv, _⟩
  · simp at hv
  · injection hv
theorem OW.free {w : World} {B g c : Nat} {l : List Nat} {n : Nat} (h : OW w B (.slice (some ⟨g, 0, none⟩) n c) l) (j : Nat) : w.frozen? ⟨g, j, none⟩ = false := by
  have hn := h.len
  subst hn
  exact h.1.frozenAt j
theorem OW.store {w : World} {B g c : Nat} {l : List Nat} {n : Nat} (h : OW w B (.slice (some ⟨g, 0, none⟩) n c) l) (j x : Nat) (hx : x < W64) : OW (w.setCell ⟨g, j, none⟩ (.int .u64 (x : Int))) B (.slice (some ⟨g, 0, none⟩) n c) (l.set j x) := by
  have hn := h.len
  subst hn
  have h1 := h.1.stored j (.int .u64 (x : Int))
  refine ⟨by simpa [wcells, List.map_set] using h1.1, ?_⟩
  intro y hy
  rcases List.mem_or_eq_of_mem_set hy with hy | rfl
  · exact h.2 y hy
  · exact hx
theorem ow_nil (w : World) (B : Nat) : OW w B (.slice none 0 0) [] := ⟨World.ownsRow_nil _ _ _ _, by simp⟩
theorem Tryz.infoWord : (Tryz.prog.info? 83).map (fun i => (i.zero, i.size, i.bytes)) = some (some (.int .u64 0), 1, 8) := by kernel_rfl
theorem words_made (n c : Nat) (hnc : n ≤ c) (hc : c ≤ 1000000) (w : World) :
    ∃ W1, (Instr.makeSlice 58 (.int .i64 (n : Int)) (.int .i64 (c : Int))).run Tryz.prog w = .ok (.slice (some ⟨w.heap.size, 0, none⟩) n c) W1 ∧ OW W1 w.heap.size (.slice (some ⟨w.heap.size, 0, none⟩) n c) (List.replicate n 0) ∧ Below w.heap.size w W1 := by
  obtain ⟨i0, hi, hz0, hz1, hz2⟩ := info_parts Tryz.infoWord
  have h := run_make (P := Tryz.prog) w 58 83 i0 _ Tryz.underlying58 hi hz0 .i64 .i64 (n : Int) (c : Int) (by omega) (by omega) (by rw [hz2]; omega) (by omega)
  have e : madeCells (Value.int .u64 0).cells ((c : Int).toNat * i0.size) = madeCells #[.int .u64 0] c := by rw [hz1]; simp [Value.cells]
  have e1 : ((n : Int).toNat) = n := by omega
  have e2 : ((c : Int).toNat) = c := by omega
  rw [e, e1, e2] at h
  refine ⟨_, h, ⟨⟨by simp, .inr ⟨w.heap.size, c, _, by simp, Nat.le_refl _, heap_alloc_new w _, by simpa using hnc, by unfold maxLen; omega, by simp [size_madeCells], ?_⟩⟩, ?_⟩, (Below.refl _ w).alloc (Nat.le_refl _) _⟩
  · rw [toList_madeCells_one]
    simp [wcells, List.take_replicate]
    omega
  · intro x hx
    have := List.eq_of_mem_replicate hx
    subst this
    exact W64_pos
set_option maxRecDepth 20000 in
set_option maxHeartbeats 1000000 in
/-- make of a nat, from nothing. -/
theorem nat_make (n : Nat) (hn : n ≤ 100000) (w : World) :
    Calls Tryz.prog 47 #[.slice none 0 0, .int .i64 (n : Int)] w fun e w' => (∃ v, e = .returned v ∧ OW w' w.heap.size v (List.replicate n 0)) ∧ Below w.heap.size w w' := by
  by_cases h0 : n = 0
  · subst h0
    go_enter Tryz.func47, Tryz.ntmps47
    go_wp2
    go_ret
    exact ⟨⟨_, rfl, ow_nil _ _⟩, Below.refl _ _⟩
  · have hd0 : decide ((n : Int) ≤ 0) = false := by simp; omega
    have hd1 : decide (n = 0) = false := by simp; omega
    by_cases h1 : n = 1
    · subst h1
      obtain ⟨W1, hmk, how, hb⟩ := words_made 1 1 (by omega) (by omega) w
      rw [show ((1 : Nat) : Int) = 1 from rfl] at hmk
      have HOW := Lib.hid how
      clear how
      go_enter Tryz.func47, Tryz.ntmps47
      go_wp2
      go_ret
      exact ⟨⟨_, rfl, HOW.out⟩, hb⟩
    · have hb1 : ((n : Int) == 1) = false := by rw [beq_eq_false_iff_ne]; omega
      obtain ⟨c, hc⟩ : ∃ c : Nat, (n : Int) + 4 = (c : Int) := ⟨n + 4, by omega⟩
      obtain ⟨W1, hmk, how, hb⟩ := words_made n c (by omega) (by omega) w
      have HOW := Lib.hid how
      clear how h0 h1
      go_enter Tryz.func47, Tryz.ntmps47
      go_wp2
      go_ret
      exact ⟨⟨_, rfl, HOW.out⟩, hb⟩
end Go.Proofs.YtndeolcamgnmdaaGreatDoor
namespace Go.Proofs.YtndeolcamgnmdaaGreatDoor
open Go.RowKit
theorem OW.take {w : World} {B g c n : Nat} {l : List Nat} (h : OW w B (.slice (some ⟨g, 0, none⟩) n c) l) (k : Nat) (hk : k ≤ l.length) : OW w B (.slice (some ⟨g, 0, none⟩) k c) (l.take k) := by
  have hn := h.len
  subst hn
  refine ⟨⟨by simp, ?_⟩, fun x hx => h.2 x (List.mem_of_mem_take hx)⟩
  rcases h.1.2 with ⟨hv, _⟩ | ⟨g', cap, cur, hv, hb, hh, h1, h2, h3, h4⟩
  · simp at hv
  · injection hv with e1 e2 e3
    have e4 := Option.some.inj e1
    injection e4 with e5
    subst e3 e5
    have hl : (l.take k).length = k := by simp; omega
    refine .inr ⟨g, c, cur, by rw [hl], hb, hh, by omega, h2, h3, ?_⟩
    rw [hl]
    have : (cur.toList.take (l.length * 1)).take k = (wcells l).take k := by rw [h4]
    rw [List.take_take] at this
    rw [show min k (l.length * 1) = k * 1 by omega] at this
    rw [this]
    simp [wcells, List.map_take]
/-- No leading zero. -/
def TopNZ (l : List Nat) : Prop := l.getLast? ≠ some 0
theorem topNZ_take {l : List Nat} {k : Nat} (hk : k ≤ l.length) (h : ∀ (h0 : 0 < k) (hl : k - 1 < l.length), l[k - 1]'hl ≠ 0) : TopNZ (l.take k) := by
  unfold TopNZ
  rw [List.getLast?_eq_getElem?]
  have hl : (l.take k).length = k := by simp; omega
  rw [hl]
  by_cases h0 : 0 < k
  · rw [List.getElem?_take, if_pos (by omega), List.getElem?_eq_getElem (by omega)]
    intro e
    exact h h0 (by omega) (Option.some.inj e)
  · have : l.take k = [] := List.eq_nil_of_length_eq_zero (by omega)
    rw [this]; simp
def NormPost (B : Nat) (l : List Nat) (w : World) (e : Ending) (w' : World) : Prop := ∃ v l', e = .returned v ∧ OW w B v l' ∧ valW l' = valW l ∧ TopNZ l' ∧ w = w'
theorem nat_slice (w : World) (g n c k : Nat) (hk : k ≤ c) :
    (Instr.slice 58 (.slice (some ⟨g, 0, none⟩) n c) (some (.int .i64 0)) (some (.int .i64 (k : Int))) none).run Tryz.prog w = .ok (.slice (some ⟨g, 0, none⟩) k c) w := by
  simp [Instr.slice, run_underlying Tryz.underlying58, Instr.sliceBounds, Instr.sliceBound, asIntOf, hk, Tryz.sizeOf83, Addr.add_lit]
set_option maxRecDepth 20000 in
set_option maxHeartbeats 2000000 in
theorem nat_norm (B : Nat) (v : Value) (l : List Nat) (hl : l.length ≤ 100000) (w : World) (h : OW w B v l) :
    Calls Tryz.prog 49 #[v] w (NormPost B l w) := by
  rcases h.form with ⟨rfl, rfl⟩ | ⟨g, c, rfl, _, _, hc, hcm⟩
  · go_enter Tryz.func49, Tryz.ntmps49
    go_wp2_with fail
    refine wp_loop_rounds 1 ?_
    rw [rounds_succ]
    go_wp2
    go_ret
    exact ⟨_, [], rfl, ow_nil _ _, rfl, by simp [TopNZ], rfl⟩
  · obtain ⟨n, hn⟩ : ∃ n, n = l.length := ⟨_, rfl⟩
    rw [← hn] at h hc hl ⊢
    have HN := Lib.hid hn
    have H := Lib.hid h
    unfold maxLen at hcm
    clear h hn
    go_enter Tryz.func49, Tryz.ntmps49
    go_wp2_with fail
    go_loop [3] (fun i => ∃ k : Nat, k ≤ n ∧ i = .int .i64 k ∧ Hid (∀ j (hj : j < l.length), k ≤ j → l[j]'hj = 0)) (fun i => (intOf i).toNat)
    case atStart => exact ⟨n, Nat.le_refl _, rfl, fun j hj h => by have := HN.out; omega⟩
    case round =>
      obtain ⟨k, hk, rfl, hz⟩ := hrel
      by_cases h0 : 0 < k
      · obtain ⟨j, rfl⟩ : ∃ j, k = j + 1 := ⟨k - 1, by omega⟩
        have hjl : j < l.length := by have := HN.out; omega
        have hcell := H.out.cell j hjl
        have hd : decide ((0 : Int) < ((j + 1 : Nat) : Int)) = true := by rw [decide_eq_true_iff]; omega
        have hsub : ((j + 1 : Nat) : Int) - 1 = (j : Int) := by omega
        by_cases hx : l[j]'hjl = 0
        · have hb : (((l[j]'hjl : Nat) : Int) == 0) = true := by rw [beq_iff_eq]; omega
          have HX := Lib.hid hx
          clear hx
          go_wp2
          go_round
          case rel => exact ⟨j, by omega, by go_num, fun i hi hji => by
            by_cases e : i = j
            · subst e; exact HX.out
            · exact hz.out i hi (by omega)⟩
          case measure => simp [intOf]
        · have hb : (((l[j]'hjl : Nat) : Int) == 0) = false := by rw [beq_eq_false_iff_ne]; omega
          have HX := Lib.hid hx
          have hsl := fun W => nat_slice W g n c (j + 1) (by omega)
          clear hx
          go_wp2
          go_ret
          exact ⟨_, l.take (j + 1), rfl, H.out.take (j + 1) (by omega), valW_take l (j + 1) (by omega) hz.out, topNZ_take (by omega) (fun _ _ => HX.out), rfl⟩
      · obtain rfl : k = 0 := by omega
        have hsl := fun W => nat_slice W g n c 0 (by omega)
        go_wp2
        go_ret
        exact ⟨_, l.take 0, rfl, H.out.take 0 (by omega), valW_take l 0 (by omega) hz.out, topNZ_take (by omega) (fun h _ => by omega), rfl⟩
end Go.Proofs.YtndeolcamgnmdaaGreatDoor
namespace Go.Proofs.YtndeolcamgnmdaaGreatDoor
open Go.RowKit
theorem OB.after {w w' : World} {B : Nat} {v : Value} {l : List Nat} (h : OB w B v l) (hb : Below w.heap.size w w') : OB w' B v l := h.below hb
theorem slice_mid (w : World) (g n c j i : Nat) (hji : j < i) (hic : i ≤ c) :
    (Instr.slice 22 (.slice (some ⟨g, 0, none⟩) n c) (some (.int .i64 (j : Int))) (some (.int .i64 (i : Int))) none).run Tryz.prog w = .ok (.slice (some ⟨g, j, none⟩) (i - j) (c - j)) w := by
  have h1 : ¬ c = j := by omega
  have h2 : j ≤ i := by omega
  simp [Instr.slice, run_underlying Tryz.underlying22, Instr.sliceBounds, Instr.sliceBound, asIntOf, hic, h1, h2, Tryz.sizeOf5, Addr.add_lit]
theorem wrap64_small (x : Int) (h0 : 0 ≤ x) (h1 : x < 18446744073709551616) : IntKind.u64.wrap x = x := wraps_u64 x h0 (by simpa using h1)
theorem or_step (t D x : Nat) (ht : t ≤ 7) (hD : D < 256 ^ t) (hx : x < 256) : bits .or .u64 (D : Int) (IntKind.u64.wrap ((x : Int) * 2 ^ (8 * t))) = ((D + x * 256 ^ t : Nat) : Int) := by
  have h : t = 0 ∨ t = 1 ∨ t = 2 ∨ t = 3 ∨ t = 4 ∨ t = 5 ∨ t = 6 ∨ t = 7 := by omega
  rcases h with rfl | rfl | rfl | rfl | rfl | rfl | rfl | rfl
  · obtain rfl : D = 0 := by simpa using hD
    have e : (x : Int) * 2 ^ (8 * 0) = (x : Int) := by simp
    rw [e, wrap64_small (x : Int) (by omega) (by omega), show ((0 : Nat) : Int) = 0 from rfl]
    have ec : bits .or .u64 (0 : Int) (x : Int) = bits .or .u64 (x : Int) 0 := by simp only [bits, BitVec.or_comm]
    have e1 := u64_or8 (y := (x : Int)) (x := 0) (by omega) (by omega) (by omega) (by omega) (by omega)
    rw [ec, e1]; simp
  · have e : (x : Int) * 2 ^ (8 * 1) = (x : Int) * 256 := by simp
    rw [e, wrap64_small _ (by omega) (by omega), u64_or8 (y := (D : Int)) (x := (x : Int) * 256) (by omega) (by simp at hD; omega) (by omega) (by omega) (by omega)]
    simp
  · have e : (x : Int) * 2 ^ (8 * 2) = (x : Int) * 65536 := by simp
    rw [e, wrap64_small _ (by omega) (by omega), u64_or16 (y := (D : Int)) (x := (x : Int) * 65536) (by omega) (by simp at hD; omega) (by omega) (by omega) (by omega)]
    simp
  · have e : (x : Int) * 2 ^ (8 * 3) = (x : Int) * 16777216 := by simp
    rw [e, wrap64_small _ (by omega) (by omega), u64_or24 (y := (D : Int)) (x := (x : Int) * 16777216) (by omega) (by simp at hD; omega) (by omega) (by omega) (by omega)]
    simp
  · have e : (x : Int) * 2 ^ (8 * 4) = (x : Int) * 4294967296 := by simp
    rw [e, wrap64_small _ (by omega) (by omega), u64_or32 (y := (D : Int)) (x := (x : Int) * 4294967296) (by omega) (by simp at hD; omega) (by omega) (by omega) (by omega)]
    simp
  · have e : (x : Int) * 2 ^ (8 * 5) = (x : Int) * 1099511627776 := by simp
    rw [e, wrap64_small _ (by omega) (by omega), u64_or40 (y := (D : Int)) (x := (x : Int) * 1099511627776) (by omega) (by simp at hD; omega) (by omega) (by omega) (by omega)]
    simp
  · have e : (x : Int) * 2 ^ (8 * 6) = (x : Int) * 281474976710656 := by simp
    rw [e, wrap64_small _ (by omega) (by omega), u64_or48 (y := (D : Int)) (x := (x : Int) * 281474976710656) (by omega) (by simp at hD; omega) (by omega) (by omega) (by omega)]
    simp
  · have e : (x : Int) * 2 ^ (8 * 7) = (x : Int) * 72057594037927936 := by simp
    rw [e, wrap64_small _ (by omega) (by omega), u64_or56 (y := (D : Int)) (x := (x : Int) * 72057594037927936) (by omega) (by simp at hD; omega) (by omega) (by omega) (by omega)]
    simp
def SetPost (l : List Nat) (w : World) (e : Ending) (w' : World) : Prop := ∃ v ws, e = .returned v ∧ OW w' w.heap.size v ws ∧ valW ws = natOf l ∧ TopNZ ws ∧ Below w.heap.size w w'
set_option maxRecDepth 20000 in
set_option maxHeartbeats 4000000 in
theorem set_bytes (B g n c : Nat) (l : List Nat) (w : World) (h : OB w B (.slice (some ⟨g, 0, none⟩) n c) l) (hn : n ≤ 1000) (hnl : n = l.length) :
    Calls Tryz.prog 36 #[.slice none 0 0, .slice (some ⟨g, 0, none⟩) n c] w (SetPost l w) := by
  obtain ⟨N, hN⟩ : ∃ N, N = (n + 7) / 8 := ⟨_, rfl⟩
  have hdiv : ((n : Int) + 8 - 1) / 8 = (N : Int) := by omega
  have hNn : N ≤ 1000 := by omega
  have H := Lib.hid h
  have HN := Lib.hid hN
  have HL := Lib.hid hnl
  have hcn : n ≤ c := by obtain ⟨_, _, hv, _, _, h1, _⟩ := h.form; injection hv with _ e2 e3; omega
  clear h hN hnl
  by_cases h0 : n = 0
  · subst h0
    obtain rfl : N = 0 := by have := HN.out; omega
    have hnil : l = [] := List.eq_nil_of_length_eq_zero HL.out.symm
    have HNIL := Lib.hid hnil
    clear hnil
    go_enter Tryz.func36, Tryz.ntmps36
    go_wp2_with fail
    refine (nat_make 0 (by omega) _).mono ?_
    rintro e w1 ⟨⟨v, rfl, how⟩, hb1⟩
    have HOW := Lib.hid how
    have HB := Lib.hid hb1
    clear how hb1
    go_wp2_with fail
    refine wp_loop_rounds 1 ?_
    rw [rounds_succ]
    go_wp2_with fail
    refine (nat_norm w.heap.size _ _ (by simp) _ HOW.out).mono ?_
    rintro e w4 ⟨v, l', rfl, how4, hv4, htop, rfl⟩
    have H4 := Lib.hid how4
    have HV4 := Lib.hid hv4
    clear how4 hv4
    go_wp2
    go_ret
    exact ⟨v, l', rfl, H4.out, by rw [HV4.out, HNIL.out]; rfl, htop, HB.out⟩
  · go_enter Tryz.func36, Tryz.ntmps36
    go_wp2_with fail
    refine (nat_make N (by omega) _).mono ?_
    rintro e w1 ⟨⟨v, rfl, how⟩, hb1⟩
    rcases how.form with ⟨rfl, hnil⟩ | ⟨gz, cz, hv, hgz, hgz2, _, _⟩
    · exfalso
      have := congrArg List.length hnil
      simp at this
      have := HN.out
      omega
    rw [List.length_replicate] at hv
    subst hv
    have HOW := Lib.hid how
    have hob := Lib.hid (H.out.below hb1)
    have hgg : ¬ g = gz := by
      have := H.out.1.lt g rfl
      omega
    have hbw := Lib.hid hb1
    clear how hb1
    go_wp2_with fail
    go_loopw [5, 6] (fun iv kv wr => ∃ (k i : Nat) (ws : List Nat), i + 8 * k = n ∧ iv = .int .i64 (i : Int) ∧ kv = .int .i64 (k : Int) ∧ Hid (OW wr w.heap.size (.slice (some ⟨gz, 0, none⟩) N cz) ws) ∧ Hid (ws.length = N) ∧ Hid (valW ws = natOf (l.drop i)) ∧ Hid (∀ j (hj : j < ws.length), k ≤ j → ws[j]'hj = 0) ∧ Hid (OB wr B (.slice (some ⟨g, 0, none⟩) n c) l) ∧ Below w.heap.size w wr)
      (fun iv _ _ => (intOf iv).toNat)
    case atStart => exact ⟨0, n, _, by omega, rfl, rfl, HOW.out, by simp [Hid], by unfold Hid; rw [valW_zeros, HL.out, List.drop_length]; rfl, fun j hj _ => List.eq_of_mem_replicate (List.getElem_mem hj), hob.out, hbw.out⟩
    case round =>
      obtain ⟨k, i, ws, hik, rfl, rfl, how, hwl, hval, hz, hobr, hb⟩ := hrel
      have hik2 : i ≤ n := by omega
      have HIK := Lib.hid hik
      clear hik
      by_cases h8 : 8 ≤ i
      · obtain ⟨j, rfl⟩ : ∃ j, i = j + 8 := ⟨i - 8, by omega⟩
        have hd : decide ((8 : Int) ≤ ((j + 8 : Nat) : Int)) = true := by rw [decide_eq_true_iff]; omega
        have hsub : ((j + 8 : Nat) : Int) - 8 = (j : Int) := by omega
        have hsl := fun W => slice_mid W g n c j (j + 8) (by omega) (by omega)
        have hkN : k < N := by have := HN.out; have := HIK.out; omega
        have hkw : k < ws.length := by rw [hwl.out]; exact hkN
        have h8l : ((l.drop j).take 8).length = 8 := by have := HL.out; simp; omega
        have hbe := Lib.hid (fun q => be_word g j 8 (c - j) ((l.drop j).take 8) h8l (fun x hx => hobr.out.2.2 x (List.mem_of_mem_drop (List.mem_of_mem_take hx))) (by omega) (by omega) (wr.drewN q) (fun i hi => by
          have hi' : j + i < l.length := by have := HL.out; omega
          have := hobr.out.cell (j + i) hi'
          simp only [World.cell?_drewN, List.getElem_take, List.getElem_drop]
          exact this))
        have hword : natOf ((l.drop j).take 8) < W64 := by
          have := natOf_lt ((l.drop j).take 8) (fun x hx => hobr.out.2.2 x (List.mem_of_mem_drop (List.mem_of_mem_take hx)))
          rw [h8l, ← W64_eq] at this
          exact this
        obtain ⟨X, hX⟩ : ∃ X, X = natOf ((l.drop j).take 8) := ⟨_, rfl⟩
        rw [← hX] at hbe hword
        have HX := Lib.hid hX
        have HW := Lib.hid hword
        have H8L := Lib.hid h8l
        clear hX hword h8l
        go_wp2_with fail
        refine (hbe.out 0).mono ?_
        rintro e w2 ⟨rfl, q, rfl⟩
        obtain ⟨W2, hW2⟩ : ∃ W2, W2 = (wr.drewN 0).drewN q := ⟨_, rfl⟩
        have how2 : OW W2 w.heap.size (.slice (some ⟨gz, 0, none⟩) N cz) ws := by rw [hW2]; exact how.out
        have hob2 : OB W2 B (.slice (some ⟨g, 0, none⟩) n c) l := by rw [hW2]; exact hobr.out
        have hb2 : Below w.heap.size w W2 := by rw [hW2]; exact below_dn (below_dn hb 0) q
        rw [← hW2]
        clear hW2 hbe hb how hobr
        have hcell := how2.cell k hkw
        have hfree := how2.free k
        have how3 := Lib.hid (how2.store k X HW.out)
        have hob3 := Lib.hid (OB.set hob2 rfl (p := ⟨gz, k, none⟩) hgg (.int .u64 (X : Int)))
        have hb3 := Lib.hid (hb2.setCell (p := ⟨gz, k, none⟩) hgz (.int .u64 (X : Int)))
        clear how2 hob2 hb2
        go_wp2
        go_roundw
        case rel =>
          refine ⟨k + 1, j, ws.set k X, by have := HIK.out; omega, rfl, by go_num, how3.out, by simpa [Hid] using hwl.out, ?_, ?_, hob3.out, hb3.out⟩
          · unfold Hid
            have hcut := natOf_cut l (j + 8) 8 (by omega) (by have := HL.out; omega)
            rw [show j + 8 - 8 = j by omega, ← HX.out] at hcut
            rw [valW_set ws k X hkw (hz.out k hkw (Nat.le_refl _)), hval.out, hcut, show l.length - (j + 8) = 8 * k by have := HL.out; have := HIK.out; omega, pow256_8, Nat.mul_comm X]
            omega
          · intro i hi hki
            rw [List.getElem_set_ne (by omega)]
            exact hz.out i (by simpa using hi) (by omega)
        case measure => simp [intOf]; omega
      · have hd : decide ((8 : Int) ≤ (i : Int)) = false := by simp; omega
        by_cases hi0 : i = 0
        · subst hi0
          have hd2 : decide ((0 : Int) < ((0 : Nat) : Int)) = false := by simp
          have HV : Hid (valW ws = natOf l) := by unfold Hid; rw [hval.out, List.drop_zero]
          have hlw : ws.length ≤ 100000 := by rw [hwl.out]; omega
          have HLW := Lib.hid hlw
          have HB := Lib.hid hb
          clear hz hval hlw hb hobr
          go_wp2_with fail
          refine (nat_norm w.heap.size _ ws HLW.out _ how.out).mono ?_
          rintro e w4 ⟨v, l', rfl, how4, hv4, htop, rfl⟩
          have H4 := Lib.hid how4
          have HV4 := Lib.hid hv4
          clear how4 hv4
          go_wp2
          go_ret
          exact ⟨v, l', rfl, H4.out, by rw [HV4.out, HV.out], htop, HB.out⟩
        · have hd2 : decide ((0 : Int) < (i : Int)) = true := by simp; omega
          have HB := Lib.hid hb
          clear hb
          go_wp2_with fail
          go_loopw [5, 7, 8] (fun iv dv sv wr' => ∃ (m D : Nat), m ≤ i ∧ iv = .int .i64 (m : Int) ∧ dv = .int .u64 (D : Int) ∧ sv = .int .u64 ((8 * (i - m) : Nat) : Int) ∧ Hid (D = natOf ((l.take i).drop m)) ∧ wr' = wr)
            (fun iv _ _ _ => (intOf iv).toNat)
          case atStart => exact ⟨i, 0, Nat.le_refl _, rfl, rfl, by simp, by simp [Hid, natOf], rfl⟩
          case round =>
            obtain ⟨m, D, hmi, rfl, rfl, rfl, hD, rfl⟩ := hrel
            by_cases hm0 : 0 < m
            · obtain ⟨j, rfl⟩ : ∃ j, m = j + 1 := ⟨m - 1, by omega⟩
              have hd3 : decide ((0 : Int) < ((j + 1 : Nat) : Int)) = true := by rw [decide_eq_true_iff]; omega
              have hsub : ((j + 1 : Nat) : Int) - 1 = (j : Int) := by omega
              have hjl : j < l.length := by have := HL.out; omega
              have hcell := hobr.out.cell j hjl
              have hjn : (j : Int) < (n : Int) := by omega
              obtain ⟨x, hx⟩ : ∃ x, x = l[j]'hjl := ⟨_, rfl⟩
              rw [← hx] at hcell
              have hx256 : x < 256 := by rw [hx]; exact hobr.out.2.2 _ (List.getElem_mem hjl)
              have hcut : natOf ((l.take i).drop j) = x * 256 ^ (i - (j + 1)) + natOf ((l.take i).drop (j + 1)) := by
                have hli : j < (l.take i).length := by have := HL.out; simp; omega
                rw [List.drop_eq_getElem_cons hli, natOf, hx]
                simp only [List.getElem_take]
                rw [show ((l.take i).drop (j + 1)).length = i - (j + 1) by have := HL.out; simp; omega]
              have hDlt : D < 256 ^ (i - (j + 1)) := by
                rw [hD.out]
                have h := natOf_lt ((l.take i).drop (j + 1)) (fun y hy => hobr.out.2.2 y (List.mem_of_mem_take (List.mem_of_mem_drop hy)))
                rwa [show ((l.take i).drop (j + 1)).length = i - (j + 1) by have := HL.out; simp; omega] at h
              have hor := or_step (i - (j + 1)) D x (by omega) hDlt hx256
              obtain ⟨E, hE⟩ : ∃ E, E = D + x * 256 ^ (i - (j + 1)) := ⟨_, rfl⟩
              rw [← hE] at hor
              have HE : Hid (E = natOf ((l.take i).drop j)) := by unfold Hid; rw [hE, hcut, hD.out]; omega
              have hsum : ((8 * (i - (j + 1)) : Nat) : Int) + 8 = ((8 * (i - j) : Nat) : Int) := by omega
              clear hx hcut hDlt hE hD
              go_wp2
              go_roundw
              case rel => exact ⟨j, E, by omega, rfl, rfl, by first | rfl | exact congrArg (Value.int .u64) (by omega), HE.out, by first | trivial | rfl⟩
              case measure => simp [intOf]
            · obtain rfl : m = 0 := by omega
              have hN1 : (N : Int) - 1 = (k : Int) := by have := HN.out; have := HIK.out; omega
              have hkw : k < ws.length := by rw [hwl.out]; have := HN.out; have := HIK.out; omega
              have hkN : (k : Int) < (N : Int) := by omega
              have hcell := how.out.cell k hkw
              have hfree := how.out.free k
              have hDlt : D < W64 := by
                have h := natOf_lt ((l.take i).drop 0) (fun y hy => hobr.out.2.2 y (List.mem_of_mem_take (List.mem_of_mem_drop hy)))
                rw [← hD.out, show ((l.take i).drop 0).length = i by have := HL.out; simp; omega] at h
                have := Nat.pow_le_pow_right (n := 256) (by omega) (show i ≤ 8 by omega)
                rw [W64_eq]; omega
              have how3 := Lib.hid (how.out.store k D hDlt)
              have hb3 := Lib.hid (HB.out.setCell (p := ⟨gz, k, none⟩) hgz (.int .u64 (D : Int)))
              have HV : Hid (valW (ws.set k D) = natOf l) := by
                unfold Hid
                have hcut := natOf_cut l i i (Nat.le_refl _) (by have := HL.out; omega)
                rw [Nat.sub_self, List.drop_zero] at hcut
                rw [valW_set ws k D hkw (hz.out k hkw (Nat.le_refl _)), hval.out, hcut, hD.out, List.drop_zero, show l.length - i = 8 * k by have := HL.out; have := HIK.out; omega, pow256_8, Nat.mul_comm (natOf (l.take i))]
                omega
              have hlw : (ws.set k D).length ≤ 100000 := by simp; rw [hwl.out]; omega
              have HLW := Lib.hid hlw
              clear hDlt how hz hval hlw hobr hD
              go_wp2_with fail
              refine (nat_norm w.heap.size _ (ws.set k D) HLW.out _ how3.out).mono ?_
              rintro e w4 ⟨v, l', rfl, how4, hv4, htop, rfl⟩
              have H4 := Lib.hid how4
              have HV4 := Lib.hid hv4
              clear how4 hv4
              go_wp2
              go_ret
              exact ⟨v, l', rfl, H4.out, by rw [HV4.out, HV.out], htop, hb3.out⟩
end Go.Proofs.YtndeolcamgnmdaaGreatDoor
namespace Go.Proofs.YtndeolcamgnmdaaGreatDoor
open Go.RowKit
def valI (neg : Bool) (ws : List Nat) : Int := if neg then -(valW ws : Int) else (valW ws : Int)
/-- Block b holds an integer of these words, which lie above B. -/
def BigI (w : World) (B b : Nat) (neg : Bool) (ws : List Nat) : Prop :=
  ∃ v, Blk w b 60 #[.bool neg, v] ∧ OW w B v ws ∧ TopNZ ws ∧ (neg = true → ws ≠ []) ∧ ws.length ≤ 1000
theorem BigI.blk {w : World} {B b : Nat} {neg : Bool} {ws : List Nat} (h : BigI w B b neg ws) : b < w.heap.size := by obtain ⟨_, h1, _⟩ := h; exact h1.lt
theorem BigI.below {w w' : World} {B b : Nat} {neg : Bool} {ws : List Nat} (h : BigI w B b neg ws) (hb : Below w.heap.size w w') : BigI w' B b neg ws := by
  obtain ⟨v, h1, h2, h3⟩ := h
  exact ⟨v, h1.below hb h1.lt, h2.below hb, h3⟩
theorem BigI.base {w : World} {B C b : Nat} {neg : Bool} {ws : List Nat} (h : BigI w B b neg ws) (hC : C ≤ B) : BigI w C b neg ws := by
  obtain ⟨v, h1, h2, h3⟩ := h
  exact ⟨v, h1, h2.base hC, h3⟩
/-- The value of the slice of words, its constructor in sight. -/
theorem OW.shape {w : World} {B : Nat} {v : Value} {l : List Nat} (h : OW w B v l) : ∃ a c, v = .slice a l.length c := by
  rcases h.form with ⟨hv, rfl⟩ | ⟨g, c, hv, _⟩
  · exact ⟨none, 0, hv⟩
  · exact ⟨_, c, hv⟩
theorem pow8_len {ws : List Nat} {l : List Nat} (h : valW ws = natOf l) (ht : TopNZ ws) (hl : l.length ≤ 1000) (hb : ∀ x ∈ l, x < 256) : ws.length ≤ 1000 := by
  by_cases h0 : ws = []
  · subst h0; simp
  · obtain ⟨init, last, rfl⟩ : ∃ init last, ws = init ++ [last] := ⟨ws.dropLast, ws.getLast h0, (List.dropLast_concat_getLast h0).symm⟩
    have hl0 : last ≠ 0 := by
      unfold TopNZ at ht
      simpa using ht
    have h1 := valW_top init last hl0
    have h2 := natOf_lt l hb
    by_cases hc : init.length < 1000
    · simp; omega
    · exfalso
      have h3 : W64 ^ init.length = 256 ^ (8 * init.length) := (pow256_8 _).symm
      have h4 := Nat.pow_le_pow_right (n := 256) (by omega) (show l.length ≤ 8 * init.length by omega)
      omega
def SetBytesPost (b : Nat) (l : List Nat) (w : World) (e : Ending) (w' : World) : Prop := ∃ ws, e = .returned (.pointer (some ⟨b, 0, none⟩)) ∧ BigI w' w.heap.size b false ws ∧ valW ws = natOf l ∧ Only (· = b) w w'
set_option maxRecDepth 20000 in
set_option maxHeartbeats 2000000 in
theorem int_setBytes (B b g n c : Nat) (l : List Nat) (w : World) (hz : Blk w b 60 #[.bool false, .slice none 0 0]) (h : OB w B (.slice (some ⟨g, 0, none⟩) n c) l) (hn : n ≤ 1000) (hnl : n = l.length) :
    Calls Tryz.prog 24 #[.pointer (some ⟨b, 0, none⟩), .slice (some ⟨g, 0, none⟩) n c] w (SetBytesPost b l w) := by
  obtain ⟨c0, c1, f0, f1⟩ := blk2 hz
  have HZ := Lib.hid hz
  have H := Lib.hid h
  have HNL := Lib.hid hnl
  clear hz h hnl
  go_enter Tryz.func24, Tryz.ntmps24
  go_wp2_with fail
  refine (set_bytes B g n c l _ H.out hn HNL.out).mono ?_
  rintro e w1 ⟨v, ws, rfl, how, hval, htop, hb1⟩
  have hlen := pow8_len hval htop (by have := HNL.out; omega) H.out.2.2
  obtain ⟨a, cz, hv⟩ := how.shape
  obtain ⟨r, hr⟩ : ∃ r, r = ws.length := ⟨_, rfl⟩
  rw [← hr] at hv
  subst hv
  have k := Lib.hid (HZ.out.below hb1 HZ.out.lt)
  obtain ⟨d0, d1, e0, e1⟩ := blk2 k.out
  have HOW := Lib.hid how
  have HB := Lib.hid hb1
  have HV := Lib.hid hval
  have hbz := HZ.out.lt
  clear how hb1 hval hr c0 c1 f0 f1
  go_wp2
  go_ret
  refine ⟨ws, rfl, ⟨.slice a r cz, ?_, ?_, htop, fun h => by simp at h, hlen⟩, HV.out, ?_⟩
  · have h := (k.out.put 1 (.slice a r cz)).put 0 (.bool false)
    simpa using h
  · exact HOW.out.only (((Only.refl (fun x => x = b) w1).setCell (p := ⟨b, 1, none⟩) (.inl (rfl : b = b)) _).setCell (p := ⟨b, 0, none⟩) (.inl (rfl : b = b)) _) (fun k hk e => by omega)
  · exact ((Only.of_below (S := fun x => x = b) HB.out).setCell (p := ⟨b, 1, none⟩) (.inl (rfl : b = b)) _).setCell (p := ⟨b, 0, none⟩) (.inl (rfl : b = b)) _
set_option maxRecDepth 20000 in
theorem set_same (b : Nat) (w : World) :
    Calls Tryz.prog 37 #[.pointer (some ⟨b, 0, none⟩), .pointer (some ⟨b, 0, none⟩)] w fun e w' => e = .returned (.pointer (some ⟨b, 0, none⟩)) ∧ w = w' := by
  have hne := Lib.run_neq_ptr_same (P := Tryz.prog) (w := w) (te := 60) (tp := 44) (j := (Tryz.prog.info? 60).get (by kernel_rfl)) ⟨b, 0, none⟩ Tryz.underlying44 (Option.some_get _).symm
  go_enter Tryz.func37, Tryz.ntmps37
  go_wp2
  go_ret
  exact ⟨rfl, rfl⟩
def NegPost (B b : Nat) (ws : List Nat) (w : World) (e : Ending) (w' : World) : Prop := e = .returned (.pointer (some ⟨b, 0, none⟩)) ∧ BigI w' B b (!ws.isEmpty) ws ∧ Only (· = b) w w'
set_option maxRecDepth 20000 in
set_option maxHeartbeats 2000000 in
theorem int_neg (B b : Nat) (ws : List Nat) (w : World) (hB : b < B) (h : BigI w B b false ws) :
    Calls Tryz.prog 25 #[.pointer (some ⟨b, 0, none⟩), .pointer (some ⟨b, 0, none⟩)] w (NegPost B b ws w) := by
  obtain ⟨v, hz, how, htop, _, hlen⟩ := h
  obtain ⟨a, c, hv⟩ := how.shape
  obtain ⟨r, hr⟩ : ∃ r, r = ws.length := ⟨_, rfl⟩
  rw [← hr] at hv
  subst hv
  obtain ⟨c0, c1, f0, f1⟩ := blk2 hz
  have HZ := Lib.hid hz
  have HOW := Lib.hid how
  have HR := Lib.hid hr
  have hO : ∀ u, Only (· = b) w (w.setCell ⟨b, 0, none⟩ u) := fun u => (Only.refl (fun x => x = b) w).setCell (p := ⟨b, 0, none⟩) (.inl (rfl : b = b)) u
  have HO := Lib.hid hO
  clear hz how hr hO
  by_cases h0 : 0 < r
  · have hd : decide ((0 : Int) < (r : Int)) = true := by simp; omega
    have HE : Hid ((!ws.isEmpty) = true) := by
      unfold Hid
      cases hw : ws with
      | nil => have := HR.out; rw [hw] at this; simp at this; omega
      | cons x y => rfl
    go_enter Tryz.func25, Tryz.ntmps25
    go_wp2_with fail
    refine (set_same b _).mono ?_
    rintro e w1 ⟨rfl, rfl⟩
    go_wp2
    go_ret
    refine ⟨rfl, ⟨.slice a r c, ?_, HOW.out.only (HO.out _) (fun k hk e => by omega), htop, fun _ e => ?_, hlen⟩, HO.out _⟩
    · have h := HZ.out.put 0 (.bool true)
      rw [HE.out]
      simpa using h
    · have := HR.out; rw [e] at this; simp at this; omega
  · have hd : decide ((0 : Int) < (r : Int)) = false := by simp; omega
    have HE : Hid ((!ws.isEmpty) = false) := by
      unfold Hid
      have : ws = [] := List.eq_nil_of_length_eq_zero (by have := HR.out; omega)
      rw [this]; rfl
    go_enter Tryz.func25, Tryz.ntmps25
    go_wp2_with fail
    refine (set_same b _).mono ?_
    rintro e w1 ⟨rfl, rfl⟩
    go_wp2
    go_ret
    refine ⟨rfl, ⟨.slice a r c, ?_, HOW.out.only (HO.out _) (fun k hk e => by omega), htop, fun h e => ?_, hlen⟩, HO.out _⟩
    · have h := HZ.out.put 0 (.bool false)
      rw [HE.out]
      simpa using h
    · rw [HE.out] at h; simp at h
def signW (neg : Bool) (ws : List Nat) : Int := if ws = [] then 0 else if neg then -1 else 1
def SignWPost (neg : Bool) (ws : List Nat) (w : World) (e : Ending) (w' : World) : Prop := e = .returned (.int .i64 (signW neg ws)) ∧ w = w'
theorem big_sign (B b : Nat) (neg : Bool) (ws : List Nat) (w : World) (h : BigI w B b neg ws) :
    Calls Tryz.prog 28 #[.pointer (some ⟨b, 0, none⟩)] w (SignWPost neg ws w) := by
  obtain ⟨v, hz, how, htop, _, hlen⟩ := h
  obtain ⟨a, c, hv⟩ := how.shape
  obtain ⟨r, hr⟩ : ∃ r, r = ws.length := ⟨_, rfl⟩
  rw [← hr] at hv
  subst hv
  obtain ⟨c0, c1, f0, f1⟩ := blk2 hz
  have HR := Lib.hid hr
  clear hz how hr
  by_cases h0 : r = 0
  · have hb : ((r : Int) == 0) = true := by rw [beq_iff_eq]; omega
    have hw : ws = [] := List.eq_nil_of_length_eq_zero (by have := HR.out; omega)
    have HW : Hid (signW neg ws = 0) := by unfold Hid signW; rw [if_pos hw]
    clear hw h0
    go_enter Tryz.func28, Tryz.ntmps28
    go_wp2
    go_ret
    exact ⟨ret_int (by rw [HW.out]), rfl⟩
  · have hb : ((r : Int) == 0) = false := by rw [beq_eq_false_iff_ne]; omega
    have hw : ¬ ws = [] := fun e => by have := HR.out; rw [e] at this; simp at this; omega
    have HW : Hid (signW neg ws = if neg then -1 else 1) := by unfold Hid signW; rw [if_neg hw]
    clear hw h0
    cases neg
    all_goals
      go_enter Tryz.func28, Tryz.ntmps28
      go_wp2
      go_ret
      exact ⟨ret_int (by rw [HW.out]; rfl), rfl⟩
theorem low_64 (B : Nat) (v : Value) (ws : List Nat) (w : World) (how : OW w B v ws) :
    Calls Tryz.prog 52 #[v] w fun e w' => e = .returned (.int .u64 ((valW ws % W64 : Nat) : Int)) ∧ w = w' := by
  rcases how.form with ⟨rfl, rfl⟩ | ⟨g, c, rfl, _, _, hc, hcm⟩
  · go_enter Tryz.func52, Tryz.ntmps52
    go_wp2
    go_ret
    exact ⟨rfl, rfl⟩
  · cases ws with
    | nil =>
      go_enter Tryz.func52, Tryz.ntmps52
      go_wp2
      go_ret
      exact ⟨rfl, rfl⟩
    | cons x r =>
      have hx : x < W64 := how.2 x (by simp)
      have HV : Hid (valW (x :: r) % W64 = x) := by unfold Hid; rw [valW, Nat.add_mul_mod_self_left, Nat.mod_eq_of_lt hx]
      obtain ⟨n, hn⟩ : ∃ n, n = (x :: r).length := ⟨_, rfl⟩
      have hn0 : 0 < n := by rw [hn]; simp
      have hb : ((n : Int) == 0) = false := by rw [beq_eq_false_iff_ne]; omega
      have c0 := how.cell 0 (by simp)
      simp only [List.getElem_cons_zero] at c0
      rw [← hn] at hc ⊢
      have h0n : (0 : Int) < (n : Int) := by omega
      clear how hn hx
      go_enter Tryz.func52, Tryz.ntmps52
      go_wp2
      go_ret
      exact ⟨ret_int (by rw [HV.out]), rfl⟩
end Go.Proofs.YtndeolcamgnmdaaGreatDoor
namespace Go.Proofs.YtndeolcamgnmdaaGreatDoor
open Go.RowKit
theorem W64_two : W64 = 2 ^ 64 := by unfold W64; decide
theorem bitLenAux_le : ∀ (f x m : Nat), x < 2 ^ f → (Lib.bitLenAux f x ≤ m ↔ x < 2 ^ m)
  | 0, x, m, h => by
    have : x = 0 := by simpa using h
    subst this
    simp [Lib.bitLenAux]
    exact Nat.pow_pos (by omega)
  | f + 1, x, m, h => by
    rw [Lib.bitLenAux]
    by_cases h0 : x = 0
    · subst h0
      simp
      exact Nat.pow_pos (by omega)
    · rw [if_neg h0]
      have hx : x / 2 < 2 ^ f := by rw [Nat.pow_succ] at h; omega
      cases m with
      | zero => simp; omega
      | succ m =>
        have ih := bitLenAux_le f (x / 2) m hx
        rw [Nat.pow_succ]
        omega
theorem bitLen_le (x m : Nat) (h : x < W64) : Lib.bitLen x ≤ m ↔ x < 2 ^ m := bitLenAux_le 64 x m (by rw [← W64_two]; exact h)
theorem or_shift (x k m : Nat) : (x ||| x / 2 ^ k) < 2 ^ m ↔ x < 2 ^ m := by
  constructor
  · intro h
    exact Nat.lt_of_le_of_lt Nat.left_le_or h
  · intro h
    exact Nat.or_lt_two_pow h (Nat.lt_of_le_of_lt (Nat.div_le_self _ _) h)
theorem or_lt64 (x k : Nat) (h : x < W64) : (x ||| x / 2 ^ k) < W64 := by rw [W64_two] at *; exact (or_shift x k 64).2 h
theorem bitLen_or (x k : Nat) (h : x < W64) : Lib.bitLen (x ||| x / 2 ^ k) = Lib.bitLen x := by
  have h2 := or_lt64 x k h
  have a := (bitLen_le x (Lib.bitLen (x ||| x / 2 ^ k)) h).2 ((or_shift x k _).1 ((bitLen_le _ _ h2).1 (Nat.le_refl _)))
  have b := (bitLen_le (x ||| x / 2 ^ k) (Lib.bitLen x) h2).2 ((or_shift x k _).2 ((bitLen_le _ _ h).1 (Nat.le_refl _)))
  omega
theorem bitLen_64 (x : Nat) (h : x < W64) : Lib.bitLen x ≤ 64 := (bitLen_le x 64 h).2 (by rw [← W64_two]; exact h)
theorem bitLen_pos (x : Nat) (h : x < W64) (h0 : x ≠ 0) : 1 ≤ Lib.bitLen x := by
  have := bitLen_le x 0 h
  simp at this
  omega
/-- How many bits words have. -/
def blen (ws : List Nat) : Nat := match ws.getLast? with
  | none => 0
  | some x => 64 * (ws.length - 1) + Lib.bitLen x
theorem blen_le (ws : List Nat) (m : Nat) (ht : TopNZ ws) (hw : ∀ x ∈ ws, x < W64) : blen ws ≤ m ↔ valW ws < 2 ^ m := by
  by_cases h0 : ws = []
  · subst h0
    simp [blen, valW]
    exact Nat.pow_pos (by omega)
  · obtain ⟨init, last, rfl⟩ : ∃ init last, ws = init ++ [last] := ⟨ws.dropLast, ws.getLast h0, (List.dropLast_concat_getLast h0).symm⟩
    have hl0 : last ≠ 0 := by unfold TopNZ at ht; simpa using ht
    have hlw : last < W64 := hw last (by simp)
    have hi := valW_lt init (fun x hx => hw x (by simp [hx]))
    have hb : blen (init ++ [last]) = 64 * init.length + Lib.bitLen last := by simp [blen]
    have hv : valW (init ++ [last]) = valW init + W64 ^ init.length * last := by rw [valW_append]; simp [valW]
    have hp : W64 ^ init.length = 2 ^ (64 * init.length) := by rw [W64_two, ← Nat.pow_mul]
    have h1 := bitLen_pos last hlw hl0
    rw [hb, hv, hp]
    rw [hp] at hi
    by_cases hm : 64 * init.length ≤ m
    · obtain ⟨d, rfl⟩ : ∃ d, m = 64 * init.length + d := ⟨m - 64 * init.length, by omega⟩
      rw [Nat.pow_add]
      have h2 := bitLen_le last d hlw
      have h3 : 64 * init.length + Lib.bitLen last ≤ 64 * init.length + d ↔ Lib.bitLen last ≤ d := by omega
      rw [h3, h2]
      generalize 2 ^ (64 * init.length) = P at *
      generalize 2 ^ d = Q at *
      constructor
      · intro h
        have := Nat.mul_le_mul_left P (show last + 1 ≤ Q from h)
        rw [Nat.mul_add, Nat.mul_one] at this
        omega
      · intro h
        by_cases hq : last < Q
        · exact hq
        · exfalso
          have := Nat.mul_le_mul_left P (show Q ≤ last by omega)
          omega
    · have h4 := Nat.pow_le_pow_right (n := 2) (by omega) (show m ≤ 64 * init.length by omega)
      have h5 : 2 ^ (64 * init.length) * 1 ≤ 2 ^ (64 * init.length) * last := Nat.mul_le_mul_left _ (by omega)
      constructor
      · intro h; omega
      · intro h; omega
theorem blen_bound (ws : List Nat) (hl : ws.length ≤ 1000) (hw : ∀ x ∈ ws, x < W64) : blen ws ≤ 64000 := by
  unfold blen
  cases h : ws.getLast? with
  | none => simp
  | some x =>
    have := bitLen_64 x (hw x (List.mem_of_getLast? h))
    simp only []
    omega
end Go.Proofs.YtndeolcamgnmdaaGreatDoor
