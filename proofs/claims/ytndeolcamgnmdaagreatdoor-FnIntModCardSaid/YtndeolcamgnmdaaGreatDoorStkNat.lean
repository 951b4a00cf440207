/- math/big's stack: words taken, and given back. -/
import Derived.Test.YtndeolcamgnmdaaGreatDoorStkIn
set_option linter.unusedVariables false
set_option linter.unusedSimpArgs false
set_option linter.unnecessarySimpa false
namespace Go.Proofs.YtndeolcamgnmdaaGreatDoor
open Go.RowKit
/-- What the stack holds: nothing yet, or an inner one at si with row gr of c words, l of them taken. -/
def StkS (w : World) (st l : Nat) (D : Option (Nat × Nat × Nat)) : Prop :=
  (D = none ∧ Blk w st 101 #[.pointer none] ∧ l = 0) ∨
  (∃ si gr c, D = some (si, gr, c) ∧ Blk w st 101 #[.pointer (some ⟨si, 0, none⟩)] ∧ Blk w si 115 #[.slice (some ⟨gr, 0, none⟩) l c] ∧ RowB w gr c ∧ l ≤ c ∧ c ≤ maxLen ∧ gr ≠ si ∧ st ≠ si ∧ st ≠ gr)
/-- What stays where words are taken. -/
structure Fr (st l : Nat) (D : Option (Nat × Nat × Nat)) (w w' : World) : Prop where
  os : w'.os = w.os
  tape : w'.tape = w.tape
  output : w'.output = w.output
  size : w.heap.size ≤ w'.heap.size
  block : ∀ b, b < w.heap.size → b ≠ st → (∀ si gr c, D = some (si, gr, c) → b ≠ si ∧ b ≠ gr) → w'.heap[b]? = w.heap[b]?
  row : ∀ b c, b ≠ st → (∀ si gr c0, D = some (si, gr, c0) → b ≠ si) → RowB w b c → RowB w' b c
  cell : ∀ b i x, b ≠ st → (∀ si gr c, D = some (si, gr, c) → b ≠ si ∧ (b = gr → i < l)) → w.cell? ⟨b, i, none⟩ = some x → w'.cell? ⟨b, i, none⟩ = some x
def NatPost (st n l : Nat) (D : Option (Nat × Nat × Nat)) (w : World) (e : Ending) (w' : World) : Prop :=
  ∃ g o cx c l' D', e = .returned (.slice (some ⟨g, o, none⟩) n cx) ∧ RowB w' g c ∧ o + n ≤ c ∧ n ≤ cx ∧ StkS w' st l' D' ∧ l ≤ l' ∧ l' ≤ l + n + 3 ∧ Fr st l D w w' ∧ (w.heap.size ≤ g ∨ ∃ si c0, D = some (si, g, c0) ∧ o = l) ∧ g ≠ st ∧
    (∀ si gr c, D' = some (si, gr, c) → (w.heap.size ≤ si ∨ ∃ gr0 c0, D = some (si, gr0, c0)) ∧ (w.heap.size ≤ gr ∨ ∃ si0 c0, D = some (si0, gr, c0)) ∧ si ≠ g ∧ (gr = g → o + n ≤ l'))
theorem nat_upto_i (w : World) (g l c k : Nat) (hk : k ≤ c) :
    (Instr.slice 58 (.slice (some ⟨g, 0, none⟩) l c) none (some (.int .i64 (k : Int))) none).run Tryz.prog w = .ok (.slice (some ⟨g, 0, none⟩) k c) w := by
  simp [Instr.slice, run_underlying Tryz.underlying58, Instr.sliceBounds, Instr.sliceBound, asIntOf, hk, Tryz.sizeOf83, Addr.add_lit]
set_option maxRecDepth 20000 in
set_option maxHeartbeats 2000000 in
theorem stk_small (st n : Nat) (h1 : 1 ≤ n) (h2 : n ≤ 4) (w : World) (hb : Blk w st 101 #[.pointer none]) :
    Calls Tryz.prog 70 #[.pointer (some ⟨st, 0, none⟩), .int .i64 (n : Int)] w (NatPost st n 0 none w) := by
  have c0 := hb.cell 0
  have f0 := hb.frozen 0
  have hd : decide ((n : Int) ≤ 4) = true := by simp; omega
  have hd1 : decide (n ≤ 4) = true := by simp; omega
  have hd2 : decide ((0 : Int) < (n : Int)) = true := by simp; omega
  have hd3 : decide (0 < n) = true := by simp; omega
  have h0n : (0 : Int) < (n : Int) := by omega
  have HG := Lib.hid (grow_nat n h1 (by omega) w)
  have HB := Lib.hid hb
  clear hb
  go_enter Tryz.func70, Tryz.ntmps70
  go_wp2_with fail
  refine HG.out.mono ?_
  rintro e w1 ⟨G, rfl, hG1, hG2, hrow, hbw, hsz⟩
  have hst := HB.out.lt
  obtain ⟨u, hu⟩ := hrow.some (i := 0) (by omega)
  have hfz := hrow.free 0
  have hne : w.heap.size ≠ st := by omega
  obtain ⟨g, hg⟩ : ∃ g, g = w.heap.size := ⟨_, rfl⟩
  rw [← hg] at hrow hu hfz hne hsz ⊢
  have hne2 : st ≠ g := fun h => hne h.symm
  have hsl1 := fun W => nat_upto_i W g 0 G n (by omega)
  have HROW := Lib.hid hrow
  have HBW := Lib.hid hbw
  have hgl : g < w1.heap.size := hrow.lt
  have HG2 := Lib.hid (And.intro hG1 hG2)
  have HGE := Lib.hid hg
  clear hrow hbw hsz hg hG1 hG2 c0 f0
  go_wp2
  go_ret
  have hge := HGE.out
  have hG := HG2.out
  have hb2 : Below w.heap.size w (w1.setCell ⟨g, 0, none⟩ (.int .u64 11259375)) := HBW.out.setCell (p := ⟨g, 0, none⟩) (by rw [hge]; exact Nat.le_refl _) _
  refine ⟨g, 0, G, G, 0, none, rfl, Wr.rowB ((Wr.refl g 0 1 w1).set (Nat.le_refl _) (by omega) _) HROW.out, by omega, by omega, .inl ⟨rfl, HB.out.below hb2 HB.out.lt, rfl⟩, Nat.le_refl _, by omega, ⟨hb2.os, hb2.tape, hb2.output, hb2.size, fun b hb _ _ => hb2.block b hb, fun b c _ _ hr => ?_, fun b i x _ _ hx => ?_⟩, .inl (by rw [hge]; exact Nat.le_refl _), hne, fun si gr c h => by simp at h⟩
  · obtain ⟨cur, k1, k2⟩ := hr
    exact ⟨cur, (hb2.block b (Array.getElem?_eq_some_iff.1 k1).1).trans k1, k2⟩
  · have hl := cell_lt hx
    unfold World.cell? at hx ⊢
    rw [hb2.block b hl]
    exact hx
set_option maxRecDepth 20000 in
set_option maxHeartbeats 2000000 in
theorem stk_big (st n : Nat) (h1 : 5 ≤ n) (h2 : n ≤ 100) (w : World) (hb : Blk w st 101 #[.pointer none]) :
    Calls Tryz.prog 70 #[.pointer (some ⟨st, 0, none⟩), .int .i64 (n : Int)] w (NatPost st n 0 none w) := by
  have c0 := hb.cell 0
  have f0 := hb.frozen 0
  have hd : decide ((n : Int) ≤ 4) = false := by simp; omega
  have hd1 : decide (n ≤ 4) = false := by simp; omega
  have hst := hb.lt
  have hne : w.heap.size ≠ st := by omega
  have hne2 : st ≠ w.heap.size := by omega
  have hbi : Blk ((w.setCell ⟨st, 0, none⟩ (.pointer (some ⟨w.heap.size, 0, none⟩))).alloc (.cells #[.slice none 0 0] 115)) w.heap.size 115 #[.slice none 0 0] := Blk.new_at _ _ _ (by simp)
  have hbs : Blk ((w.setCell ⟨st, 0, none⟩ (.pointer (some ⟨w.heap.size, 0, none⟩))).alloc (.cells #[.slice none 0 0] 115)) st 101 #[.pointer (some ⟨w.heap.size, 0, none⟩)] := by
    simpa using (hb.put 0 (.pointer (some ⟨w.heap.size, 0, none⟩))).alloc (.cells #[.slice none 0 0] 115)
  have hO : Only (· = st) w ((w.setCell ⟨st, 0, none⟩ (.pointer (some ⟨w.heap.size, 0, none⟩))).alloc (.cells #[.slice none 0 0] 115)) := ((Only.refl (fun x => x = st) w).setCell (p := ⟨st, 0, none⟩) (.inl rfl) _).alloc _
  have HG := Lib.hid (inner_first w.heap.size n (by omega) h2 _ hbi)
  have HBS := Lib.hid hbs
  have HO := Lib.hid hO
  clear hb hbi hbs hO
  go_enter Tryz.func70, Tryz.ntmps70
  go_wp2_with fail
  refine HG.out.mono ?_
  rintro e w1 ⟨⟨gr, u, c, rfl, k1, k2, k3, k4, k5, k6, k7, k8⟩, kO⟩
  have HK := Lib.hid (And.intro k1 (And.intro k2 (And.intro k3 (And.intro k4 (And.intro k5 (And.intro k6 (And.intro k7 k8)))))))
  have KO := Lib.hid kO
  clear k1 k2 k3 k4 k5 k6 k7 k8 kO
  go_wp2
  go_ret
  obtain ⟨k1, k2, k3, k4, k5, k6, k7, k8⟩ := HK.out
  have hblk : ∀ b, b < w.heap.size → b ≠ st → w1.heap[b]? = w.heap[b]? := fun b hb h3 => (KO.out.block b (Nat.lt_of_lt_of_le hb HO.out.size) (by omega)).trans (HO.out.block b hb h3)
  have hbs2 := HBS.out.only KO.out hne2
  have hsz : w.heap.size ≤ w1.heap.size := Nat.le_trans HO.out.size KO.out.size
  have hgs : gr ≠ st := fun h => by
    obtain ⟨cur, q1, _⟩ := k2
    rw [h] at q1
    unfold Blk at hbs2
    rw [q1] at hbs2
    simp at hbs2
  have hgw : w.heap.size ≤ gr := by
    have h : ((w.setCell ⟨st, 0, none⟩ (.pointer (some ⟨w.heap.size, 0, none⟩))).alloc (.cells #[.slice none 0 0] 115)).heap.size ≤ gr := k8
    simp at h
    omega
  refine ⟨gr, 0, n, c, u, some (w.heap.size, gr, c), rfl, k2, by omega, Nat.le_refl _, .inr ⟨w.heap.size, gr, c, rfl, hbs2, k1, k2, k5, k6, k7, hne2, fun h => hgs h.symm⟩, by omega, by omega, ⟨KO.out.os.trans HO.out.os, KO.out.tape.trans HO.out.tape, KO.out.output.trans HO.out.output, hsz, fun b hb h3 _ => hblk b hb h3, fun b c h3 _ hr => ?_, fun b i x h3 _ hx => ?_⟩, .inl hgw, hgs, fun si gr' c' h => ?_⟩
  · obtain ⟨cur, q1, q2⟩ := hr
    exact ⟨cur, (hblk b (Array.getElem?_eq_some_iff.1 q1).1 h3).trans q1, q2⟩
  · have hl := cell_lt hx
    unfold World.cell? at hx ⊢
    rw [hblk b hl h3]
    exact hx
  · simp only [Option.some.injEq, Prod.mk.injEq] at h
    obtain ⟨rfl, rfl, rfl⟩ := h
    exact ⟨.inl (Nat.le_refl _), .inl hgw, fun h => k7 h.symm, fun _ => by omega⟩
set_option maxRecDepth 20000 in
set_option maxHeartbeats 2000000 in
theorem stk_in (st si gr l c n : Nat) (h1 : 1 ≤ n) (h2 : n ≤ 100) (hl : l ≤ 1000) (w : World) (h : StkS w st l (some (si, gr, c))) :
    Calls Tryz.prog 70 #[.pointer (some ⟨st, 0, none⟩), .int .i64 (n : Int)] w (NatPost st n l (some (si, gr, c)) w) := by
  rcases h with ⟨h, _⟩ | ⟨si', gr', c', hD, hb, hi, hr, hlc, hcm, hgs, hss, hsg⟩
  · simp at h
  simp only [Option.some.injEq, Prod.mk.injEq] at hD
  obtain ⟨rfl, rfl, rfl⟩ := hD
  have c0 := hb.cell 0
  have f0 := hb.frozen 0
  have HG : Hid (Calls Tryz.prog 88 #[.pointer (some ⟨si, 0, none⟩), .int .i64 (n : Int)] w fun e w' => InnerPost si n l (fun g => w.heap.size ≤ g ∨ g = gr) w e w' ∧ SFr si gr l w w') := by
    by_cases hroom : l + (n + 3 - (n + 3) % 4) ≤ c
    · refine (inner_room si n gr l c h1 h2 hl w hi hr hroom hcm hgs).mono ?_
      rintro e w' ⟨⟨g, u, c', q1, q2, q3, q4, q5, q6, q7, q8, q9⟩, q⟩
      exact ⟨⟨g, u, c', q1, q2, q3, q4, q5, q6, q7, q8, .inr q9⟩, q⟩
    · refine (inner_grow si n gr l c h1 h2 hl w hi hr hlc (by omega) hcm hgs).mono ?_
      rintro e w' ⟨⟨g, u, c', q1, q2, q3, q4, q5, q6, q7, q8, q9⟩, q⟩
      exact ⟨⟨g, u, c', q1, q2, q3, q4, q5, q6, q7, q8, .inl q9⟩, q⟩
  have HB := Lib.hid hb
  clear hb hi
  go_enter Tryz.func70, Tryz.ntmps70
  go_wp2_with fail
  refine HG.out.mono ?_
  rintro e w1 ⟨⟨gr', u, c', rfl, k1, k2, k3, k4, k5, k6, k7, k8⟩, kF⟩
  have HK := Lib.hid (And.intro k1 (And.intro k2 (And.intro k3 (And.intro k4 (And.intro k5 (And.intro k6 (And.intro k7 k8)))))))
  have KF := Lib.hid kF
  clear k1 k2 k3 k4 k5 k6 k7 k8 kF
  go_wp2
  go_ret
  obtain ⟨k1, k2, k3, k4, k5, k6, k7, k8⟩ := HK.out
  have hbs2 : Blk w1 st 101 #[.pointer (some ⟨si, 0, none⟩)] := (KF.out.block st HB.out.lt hss hsg).trans HB.out
  have hgst : gr' ≠ st := fun h => by
    obtain ⟨cur, q1, _⟩ := k2
    rw [h] at q1
    unfold Blk at hbs2
    rw [q1] at hbs2
    simp at hbs2
  refine ⟨gr', l, n, c', u, some (si, gr', c'), rfl, k2, by omega, Nat.le_refl _, .inr ⟨si, gr', c', rfl, hbs2, k1, k2, k5, k6, k7, hss, fun h => hgst h.symm⟩, by omega, by omega, ⟨KF.out.os, KF.out.tape, KF.out.output, KF.out.size, fun b hb h3 h4 => ?_, fun b c2 h3 h4 hr2 => ?_, fun b i x h3 h4 hx => ?_⟩, ?_, hgst, fun si2 gr2 c2 h => ?_⟩
  · obtain ⟨h5, h6⟩ := h4 si gr c rfl
    exact KF.out.block b hb h5 h6
  · by_cases hbg : b = gr
    · subst hbg
      exact KF.out.row c2 hr2
    · obtain ⟨cur, q1, q2⟩ := hr2
      exact ⟨cur, (KF.out.block b (Array.getElem?_eq_some_iff.1 q1).1 (h4 si gr c rfl) hbg).trans q1, q2⟩
  · obtain ⟨h5, h6⟩ := h4 si gr c rfl
    by_cases hbg : b = gr
    · subst hbg
      exact KF.out.cell i x (h6 rfl) hx
    · have hl2 := cell_lt hx
      unfold World.cell? at hx ⊢
      rw [KF.out.block b hl2 h5 hbg]
      exact hx
  · rcases k8 with h | h
    · exact .inl h
    · exact .inr ⟨si, c, by rw [h], rfl⟩
  · simp only [Option.some.injEq, Prod.mk.injEq] at h
    obtain ⟨rfl, rfl, rfl⟩ := h
    refine ⟨.inr ⟨gr, c, rfl⟩, ?_, fun h => k7 h.symm, fun _ => by omega⟩
    rcases k8 with h | h
    · exact .inl h
    · exact .inr ⟨si, c, by rw [h]⟩
end Go.Proofs.YtndeolcamgnmdaaGreatDoor
