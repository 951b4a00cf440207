/- Words taken from math/big's stack of temporaries. -/
import Derived.Test.YtndeolcamgnmdaaGreatDoorStk
set_option linter.unusedVariables false
set_option linter.unusedSimpArgs false
set_option linter.unnecessarySimpa false
namespace Go.Proofs.YtndeolcamgnmdaaGreatDoor
open Go.RowKit
theorem up4 (k : Nat) (h : k < 256) : bits .andNot .i64 (k : Int) 3 = ((k - k % 4 : Nat) : Int) := by
  have hall : ∀ y : Fin 256, bits .andNot .i64 ((y.val : Nat) : Int) 3 = ((y.val - y.val % 4 : Nat) : Int) := by decide +kernel
  exact hall ⟨k, h⟩
theorem ws_upto (w : World) (g l c k : Nat) (hk : k ≤ c) :
    (Instr.slice 57 (.slice (some ⟨g, 0, none⟩) l c) none (some (.int .i64 (k : Int))) none).run Tryz.prog w = .ok (.slice (some ⟨g, 0, none⟩) k c) w := by
  simp [Instr.slice, run_underlying Tryz.underlying57, Instr.sliceBounds, Instr.sliceBound, asIntOf, hk, Tryz.sizeOf83, Addr.add_lit]
theorem ws_mid (w : World) (g l c lo hi : Nat) (hlo : lo < hi) (hc : hi ≤ c) :
    (Instr.slice 57 (.slice (some ⟨g, 0, none⟩) l c) (some (.int .i64 (lo : Int))) (some (.int .i64 (hi : Int))) (some (.int .i64 (hi : Int)))).run Tryz.prog w = .ok (.slice (some ⟨g, lo, none⟩) (hi - lo) (hi - lo)) w := by
  have e : ((hi : Int) - (lo : Int)) = ((hi - lo : Nat) : Int) := by omega
  have h1 : lo ≤ hi := by omega
  have h2 : ¬ hi - lo = 0 := by omega
  have h3 : ¬ hi = lo := by omega
  simp [Instr.slice, run_underlying Tryz.underlying57, Instr.sliceBounds, Instr.sliceBound, asIntOf, hc, h1, h2, h3, Tryz.sizeOf83, Addr.add_lit]
/-- w' is w with new blocks, with block si written, and block gr from cell u on. -/
structure SFr (si gr u : Nat) (w w' : World) : Prop where
  os : w'.os = w.os
  tape : w'.tape = w.tape
  output : w'.output = w.output
  size : w.heap.size ≤ w'.heap.size
  block : ∀ b, b < w.heap.size → b ≠ si → b ≠ gr → w'.heap[b]? = w.heap[b]?
  row : ∀ c, RowB w gr c → RowB w' gr c
  cell : ∀ i x, i < u → w.cell? ⟨gr, i, none⟩ = some x → w'.cell? ⟨gr, i, none⟩ = some x
/-- What the inner stack's nat leaves: n words from cell o of row gr on. -/
def InnerPost (si n o : Nat) (A : Nat → Prop) (w : World) (e : Ending) (w' : World) : Prop :=
  ∃ gr u c, e = .returned (.slice (some ⟨gr, o, none⟩) n n) ∧ Blk w' si 115 #[.slice (some ⟨gr, 0, none⟩) u c] ∧ RowB w' gr c ∧ o + n ≤ u ∧ u ≤ o + n + 3 ∧ u ≤ c ∧ c ≤ maxLen ∧ gr ≠ si ∧ A gr
set_option maxRecDepth 20000 in
set_option maxHeartbeats 2000000 in
theorem inner_first (si n : Nat) (h1 : 1 ≤ n) (h2 : n ≤ 100) (w : World) (hb : Blk w si 115 #[.slice none 0 0]) :
    Calls Tryz.prog 88 #[.pointer (some ⟨si, 0, none⟩), .int .i64 (n : Int)] w fun e w' => InnerPost si n 0 (fun g => w.heap.size ≤ g) w e w' ∧ Only (· = si) w w' := by
  have c0 := hb.cell 0
  have f0 := hb.frozen 0
  obtain ⟨k, hk⟩ : ∃ k : Nat, (n : Int) + 3 = (k : Int) ∧ k = n + 3 := ⟨n + 3, by omega, rfl⟩
  have hk1 := hk.1
  have hu4 := up4 k (by omega)
  obtain ⟨nr, hnr⟩ : ∃ nr, nr = k - k % 4 := ⟨_, rfl⟩
  rw [← hnr] at hu4
  have hwk : IntKind.i64.wrap (k : Int) = (k : Int) := wrap_i64_mid _ (by omega) (by omega)
  have hwn : IntKind.i64.wrap (nr : Int) = (nr : Int) := wrap_i64_mid _ (by omega) (by omega)
  have hwn2 : IntKind.i64.wrap (n : Int) = (n : Int) := wrap_i64_mid _ (by omega) (by omega)
  have HG := Lib.hid (fun W => grow_nil nr (by omega) (by omega) W)
  have hd : decide ((0 : Int) < (n : Int)) = true := by simp; omega
  have hd2 : decide (0 < n) = true := by simp; omega
  have HB := Lib.hid hb
  have hsi := hb.lt
  have HNR : Hid (n ≤ nr ∧ nr ≤ n + 3) := ⟨by omega, by omega⟩
  have h0n : (0 : Int) < (n : Int) := by omega
  clear hb hk hnr
  go_enter Tryz.func88, Tryz.ntmps88
  go_wp2_with fail
  refine (HG.out _).mono ?_
  rintro e w1 ⟨G, rfl, hG1, hG2, hrow, hbw, hsz⟩
  have hnr := HNR.out
  have hb1 := HB.out.below hbw HB.out.lt
  have d0 := hb1.cell 0
  have f1 := hb1.frozen 0
  obtain ⟨u, hu⟩ := hrow.some (i := 0) (by omega)
  have hfz := hrow.free 0
  have hne : w.heap.size ≠ si := by omega
  have hne2 : si ≠ w.heap.size := by omega
  obtain ⟨g, hg⟩ : ∃ g, g = w.heap.size := ⟨_, rfl⟩
  rw [← hg] at hrow hu hfz hne hne2 hsz ⊢
  have hsl1 := fun W => ws_upto W g 0 G nr (by omega)
  have hsl2 := fun W => ws_mid W g nr G 0 n (by omega) (by omega)
  rw [Nat.sub_zero, show ((0 : Nat) : Int) = 0 from rfl] at hsl2
  have HROW := Lib.hid hrow
  have HB1 := Lib.hid hb1
  have HBW := Lib.hid hbw
  have hgl : g < w1.heap.size := hrow.lt
  have hsl : si < w1.heap.size := hb1.lt
  have HG2 := Lib.hid (And.intro hG1 hG2)
  have HGE := Lib.hid hg
  clear hrow hb1 hbw hsz hnr hg hG1 hG2 c0 f0
  go_wp2
  go_ret
  have hnr := HNR.out
  have hG := HG2.out
  refine ⟨⟨g, nr, G, rfl, ?_, ?_, by omega, by omega, by omega, hG.2, hne, by rw [HGE.out]; exact Nat.le_refl _⟩, ?_⟩
  · have h3 := ((HB1.out.put 0 (.slice (some ⟨g, 0, none⟩) 0 G)).put 0 (.slice (some ⟨g, 0, none⟩) nr G)).far (p := ⟨g, 0, none⟩) hne2 (.int .u64 1043915)
    simpa using h3
  · exact Wr.rowB ((((Wr.refl si 0 1 w1).set (Nat.le_refl _) (by omega) _).set (Nat.le_refl _) (by omega) _)) HROW.out |> fun h => Wr.rowB ((Wr.refl g 0 1 _).set (Nat.le_refl _) (by omega) _) h
  · exact ((((Only.of_below (S := fun x => x = si) HBW.out).setCell (p := ⟨si, 0, none⟩) (.inl rfl) _).setCell (p := ⟨si, 0, none⟩) (.inl rfl) _).setCell (p := ⟨g, 0, none⟩) (.inr (by rw [HGE.out]; exact Nat.le_refl _)) _)
set_option maxRecDepth 20000 in
set_option maxHeartbeats 2000000 in
theorem inner_room (si n gr l c : Nat) (h1 : 1 ≤ n) (h2 : n ≤ 100) (hl : l ≤ 1000) (w : World) (hb : Blk w si 115 #[.slice (some ⟨gr, 0, none⟩) l c]) (hrow : RowB w gr c) (hroom : l + (n + 3 - (n + 3) % 4) ≤ c) (hcm : c ≤ maxLen) (hne : gr ≠ si) :
    Calls Tryz.prog 88 #[.pointer (some ⟨si, 0, none⟩), .int .i64 (n : Int)] w fun e w' => InnerPost si n l (fun g => g = gr) w e w' ∧ SFr si gr l w w' := by
  have c0 := hb.cell 0
  have f0 := hb.frozen 0
  obtain ⟨k, hk⟩ : ∃ k : Nat, (n : Int) + 3 = (k : Int) ∧ k = n + 3 := ⟨n + 3, by omega, rfl⟩
  have hk1 := hk.1
  have hu4 := up4 k (by omega)
  obtain ⟨nr, hnr⟩ : ∃ nr, nr = k - k % 4 := ⟨_, rfl⟩
  rw [← hnr] at hu4
  have hnr2 : nr = n + 3 - (n + 3) % 4 := by rw [hnr, hk.2]
  have hwk : IntKind.i64.wrap (k : Int) = (k : Int) := wrap_i64_mid _ (by omega) (by omega)
  have hwn : IntKind.i64.wrap (nr : Int) = (nr : Int) := wrap_i64_mid _ (by omega) (by omega)
  have hwl : IntKind.i64.wrap (l : Int) = (l : Int) := wrap_i64_mid _ (by omega) (by omega)
  obtain ⟨ln, hln⟩ : ∃ ln : Nat, (l : Int) + (nr : Int) = (ln : Int) ∧ ln = l + nr := ⟨l + nr, by omega, rfl⟩
  have hln1 := hln.1
  have hwln : IntKind.i64.wrap (ln : Int) = (ln : Int) := wrap_i64_mid _ (by omega) (by omega)
  obtain ⟨le, hle⟩ : ∃ le : Nat, (l : Int) + (n : Int) = (le : Int) ∧ le = l + n := ⟨l + n, by omega, rfl⟩
  have hle1 := hle.1
  have hwle : IntKind.i64.wrap (le : Int) = (le : Int) := wrap_i64_mid _ (by omega) (by omega)
  have HG := Lib.hid (fun W => grow_room gr l c nr (by omega) hcm W)
  have hd : decide ((0 : Int) < (n : Int)) = true := by simp; omega
  have hd2 : decide (0 < n) = true := by simp; omega
  have hsl1 := fun W => ws_upto W gr l c ln (by omega)
  have hsl2 := fun W => ws_mid W gr ln c l le (by omega) (by omega)
  rw [show le - l = n by omega] at hsl2
  have h0n : (0 : Int) < (n : Int) := by omega
  obtain ⟨u, hu⟩ := hrow.some (i := l) (by omega)
  have hfz := hrow.free l
  have hne2 : si ≠ gr := fun h => hne h.symm
  have HB := Lib.hid hb
  have HROW := Lib.hid hrow
  have hsi := hb.lt
  have hgl := hrow.lt
  have HNR : Hid (n ≤ nr ∧ nr ≤ n + 3 ∧ ln = l + nr ∧ ln ≤ c) := ⟨by omega, by omega, hln.2, by omega⟩
  clear hb hrow hk hnr hnr2 hln hle hroom
  go_enter Tryz.func88, Tryz.ntmps88
  go_wp2_with fail
  refine (HG.out _).mono ?_
  rintro e w1 ⟨rfl, rfl⟩
  go_wp2
  go_ret
  have hnr := HNR.out
  have hrow2 : ∀ v1 v2 v3 : Value, ∀ c', RowB w gr c' → RowB (((w.setCell ⟨si, 0, none⟩ v1).setCell ⟨si, 0, none⟩ v2).setCell ⟨gr, l, none⟩ v3) gr c' := fun v1 v2 v3 c' h =>
    Wr.rowB ((Wr.refl gr l 1 _).set (Nat.le_refl _) (by omega) _) (Wr.rowB (((Wr.refl si 0 1 w).set (Nat.le_refl _) (by omega) _).set (Nat.le_refl _) (by omega) _) h)
  refine ⟨⟨gr, ln, c, rfl, ?_, hrow2 _ _ _ c HROW.out, by omega, by omega, by omega, hcm, hne, rfl⟩, ⟨rfl, rfl, rfl, by simp, ?_, hrow2 _ _ _, ?_⟩⟩
  · have h3 := ((HB.out.put 0 (.slice (some ⟨gr, 0, none⟩) l c)).put 0 (.slice (some ⟨gr, 0, none⟩) ln c)).far (p := ⟨gr, l, none⟩) hne2 (.int .u64 1043915)
    simpa using h3
  · intro b hb h3 h4
    rw [Below.heap_setCell _ _ _ _ (by exact h4), Below.heap_setCell _ _ _ _ (by exact h3), Below.heap_setCell _ _ _ _ (by exact h3)]
  · intro i x hi hx
    have k1 : (w.setCell ⟨si, 0, none⟩ (.slice (some ⟨gr, 0, none⟩) l c)).cell? ⟨gr, i, none⟩ = some x := ((Wr.refl si 0 1 w).set (Nat.le_refl _) (by omega) _).cell hx (by rintro ⟨h, _⟩; exact hne h)
    have k2 := ((Wr.refl si 0 1 _).set (Nat.le_refl _) (by omega) (.slice (some ⟨gr, 0, none⟩) ln c)).cell k1 (by rintro ⟨h, _⟩; exact hne h)
    exact ((Wr.refl gr l 1 _).set (Nat.le_refl _) (by omega) _).cell k2 (by rintro ⟨_, h, _⟩; omega)
set_option maxRecDepth 20000 in
set_option maxHeartbeats 2000000 in
theorem inner_grow (si n gr l c : Nat) (h1 : 1 ≤ n) (h2 : n ≤ 100) (hl : l ≤ 1000) (w : World) (hb : Blk w si 115 #[.slice (some ⟨gr, 0, none⟩) l c]) (hrow : RowB w gr c) (hlc : l ≤ c) (hroom : c < l + (n + 3 - (n + 3) % 4)) (hcm : c ≤ maxLen) (hne : gr ≠ si) :
    Calls Tryz.prog 88 #[.pointer (some ⟨si, 0, none⟩), .int .i64 (n : Int)] w fun e w' => InnerPost si n l (fun g => w.heap.size ≤ g) w e w' ∧ SFr si gr l w w' := by
  have c0 := hb.cell 0
  have f0 := hb.frozen 0
  obtain ⟨k, hk⟩ : ∃ k : Nat, (n : Int) + 3 = (k : Int) ∧ k = n + 3 := ⟨n + 3, by omega, rfl⟩
  have hk1 := hk.1
  have hu4 := up4 k (by omega)
  obtain ⟨nr, hnr⟩ : ∃ nr, nr = k - k % 4 := ⟨_, rfl⟩
  rw [← hnr] at hu4
  have hnr2 : nr = n + 3 - (n + 3) % 4 := by rw [hnr, hk.2]
  have hwk : IntKind.i64.wrap (k : Int) = (k : Int) := wrap_i64_mid _ (by omega) (by omega)
  have hwn : IntKind.i64.wrap (nr : Int) = (nr : Int) := wrap_i64_mid _ (by omega) (by omega)
  have hwl : IntKind.i64.wrap (l : Int) = (l : Int) := wrap_i64_mid _ (by omega) (by omega)
  obtain ⟨ln, hln⟩ : ∃ ln : Nat, (l : Int) + (nr : Int) = (ln : Int) ∧ ln = l + nr := ⟨l + nr, by omega, rfl⟩
  have hln1 := hln.1
  have hwln : IntKind.i64.wrap (ln : Int) = (ln : Int) := wrap_i64_mid _ (by omega) (by omega)
  obtain ⟨le, hle⟩ : ∃ le : Nat, (l : Int) + (n : Int) = (le : Int) ∧ le = l + n := ⟨l + n, by omega, rfl⟩
  have hle1 := hle.1
  have hwle : IntKind.i64.wrap (le : Int) = (le : Int) := wrap_i64_mid _ (by omega) (by omega)
  have HG := Lib.hid (grow_more gr l c nr hlc (by omega) (by omega) w hrow)
  have hd : decide ((0 : Int) < (n : Int)) = true := by simp; omega
  have hd2 : decide (0 < n) = true := by simp; omega
  have h0n : (0 : Int) < (n : Int) := by omega
  have hne2 : si ≠ gr := fun h => hne h.symm
  have HB := Lib.hid hb
  have HROW := Lib.hid hrow
  have hsi := hb.lt
  have hgl := hrow.lt
  have HNR : Hid (n ≤ nr ∧ nr ≤ n + 3 ∧ ln = l + nr ∧ le = l + n) := ⟨by omega, by omega, hln.2, hle.2⟩
  clear hb hrow hk hnr hnr2 hln hle hroom
  go_enter Tryz.func88, Tryz.ntmps88
  go_wp2_with fail
  refine HG.out.mono ?_
  rintro e w1 ⟨G, rfl, hG1, hG2, hrow1, hbw, hsz⟩
  have hnr := HNR.out
  have hb1 := HB.out.below hbw HB.out.lt
  have d0 := hb1.cell 0
  have f1 := hb1.frozen 0
  obtain ⟨u, hu⟩ := hrow1.some (i := l) (by omega)
  have hfz := hrow1.free l
  have hne3 : w.heap.size ≠ si := by omega
  have hne4 : si ≠ w.heap.size := by omega
  obtain ⟨g, hg⟩ : ∃ g, g = w.heap.size := ⟨_, rfl⟩
  rw [← hg] at hrow1 hu hfz hne3 hne4 hsz ⊢
  have hsl1 := fun W => ws_upto W g l G ln (by omega)
  have hsl2 := fun W => ws_mid W g ln G l le (by omega) (by omega)
  rw [show le - l = n by omega] at hsl2
  have HROW1 := Lib.hid hrow1
  have HB1 := Lib.hid hb1
  have HBW := Lib.hid hbw
  have hgl2 : g < w1.heap.size := hrow1.lt
  have hsl : si < w1.heap.size := hb1.lt
  have HG2 := Lib.hid (And.intro hG1 hG2)
  have HGE := Lib.hid hg
  clear hrow1 hb1 hbw hsz hnr hg hG1 hG2 c0 f0
  go_wp2
  go_ret
  have hnr := HNR.out
  have hG := HG2.out
  have hge := HGE.out
  have hO : Only (· = si) w (((w1.setCell ⟨si, 0, none⟩ (.slice (some ⟨g, 0, none⟩) l G)).setCell ⟨si, 0, none⟩ (.slice (some ⟨g, 0, none⟩) ln G)).setCell ⟨g, l, none⟩ (.int .u64 1043915)) := ((((Only.of_below (S := fun x => x = si) HBW.out).setCell (p := ⟨si, 0, none⟩) (.inl rfl) _).setCell (p := ⟨si, 0, none⟩) (.inl rfl) _).setCell (p := ⟨g, l, none⟩) (.inr (by rw [hge]; exact Nat.le_refl _)) _)
  refine ⟨⟨g, ln, G, rfl, ?_, ?_, by omega, by omega, by omega, hG.2, hne3, by rw [hge]; exact Nat.le_refl _⟩, ⟨hO.os, hO.tape, hO.output, hO.size, fun b hb h3 h4 => hO.block b hb h3, fun c' hc' => ?_, fun i x hi hx => ?_⟩⟩
  · have h3 := ((HB1.out.put 0 (.slice (some ⟨g, 0, none⟩) l G)).put 0 (.slice (some ⟨g, 0, none⟩) ln G)).far (p := ⟨g, l, none⟩) hne4 (.int .u64 1043915)
    simpa using h3
  · exact Wr.rowB ((Wr.refl g l 1 _).set (Nat.le_refl _) (by omega) _) (Wr.rowB (((Wr.refl si 0 1 w1).set (Nat.le_refl _) (by omega) _).set (Nat.le_refl _) (by omega) _) HROW1.out)
  · obtain ⟨cur, k1, k2⟩ := hc'
    exact ⟨cur, (hO.block gr hgl hne).trans k1, k2⟩
  · unfold World.cell? at hx ⊢
    rw [hO.block gr hgl hne]
    exact hx
end Go.Proofs.YtndeolcamgnmdaaGreatDoor
